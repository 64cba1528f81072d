/- Lemmas and walks on the way to the law, merged by wip/tools/pack.py: Fields, Closure, Options, Fill, Lower, ZZFields. Conditions: none. -/
import Derived.Test.YtmecbmgfacpecaaGreatDoorGrB
import Derived.Test.YtmecbmgfacpecaaGreatDoorGrC
import Derived.Test.YtmecbmgfacpecaaGreatDoorPrA
import Derived.Test.YtmecbmgfacpecaaGreatDoorGrA
import Derived.Lib.OthersKept
import Derived.Lib.AppendStr
import Derived.Lib.TrimU
import Derived.Deep.LoopGhost
import Derived.Deep.DeepMust
import Derived.Laws.IdiomStrings
import Derived.Laws.Cover4
import Derived.Laws.BytesString
import Derived.Shelf.Strings.FieldsFuncAny
import Derived.Lib.FieldsP
namespace Go.Proofs.YtmecbmgfacpecaaGreatDoor.Cron
open Go Go.RowKit Go.Proofs.YtmecbmgfacpecaaGreatDoor.Text Go.Proofs.YtmecbmgfacpecaaGreatDoor.Bits Go.Proofs.YtmecbmgfacpecaaGreatDoorW.PrintWords Go.Proofs.YtmecbmgfacpecaaGreatDoorW.PrintLast Go.Proofs.YtmecbmgfacpecaaGreatDoorW.PrintMore Go.Proofs.YtmecbmgfacpecaaGreatDoor.Pr
set_option linter.unusedVariables false
def loK (k : Nat) : Nat := if k = 3 ∨ k = 4 then 1 else 0
def hiK (k : Nat) : Nat := if k = 2 then 23 else if k = 3 then 31 else if k = 4 then 12 else if k = 5 then 6 else 59
theorem loK_le (k : Nat) : loK k ≤ hiK k := by unfold loK hiK; split <;> (repeat' split) <;> omega
theorem hiK_le (k : Nat) : hiK k ≤ 62 := by unfold hiK; (repeat' split) <;> omega
theorem drawn_below {w w' : World} (h : Drawn0 w w') : Below w.heap.size w w' := by
 first
  | exact h
  | (obtain ⟨n, rfl⟩ := h; exact pw_below_drewN (Below.refl _ _) n)
theorem high_f (k : Nat) : spec_CronHigh.f k = some (hiK k : Nat) := by
 unfold spec_CronHigh.f hiK
 by_cases h2 : k = 2
 ·subst h2; rfl
 ·rw [if_neg (by omega), if_neg h2]
  by_cases h3 : k = 3
  ·subst h3; rfl
  ·rw [if_neg (by omega), if_neg h3]
   by_cases h4 : k = 4
   ·subst h4; rfl
   ·rw [if_neg (by omega), if_neg h4]
    by_cases h5 : k = 5
    ·subst h5; rfl
    ·rw [if_neg (by omega), if_neg h5]; rfl
theorem low_f (k : Nat) : spec_CronLow.f k = some (loK k : Nat) := by
 unfold spec_CronLow.f loK
 by_cases h3 : k = 3
 ·subst h3; rfl
 ·rw [if_neg (by omega)]
  by_cases h4 : k = 4
  ·subst h4; rfl
  ·rw [if_neg (by omega), if_neg (by omega)]; rfl
theorem boundsOf_any (k : Nat) (w : World) : Calls Tryz.prog 22 #[.int .i64 k] w fun e w' => e = .returned (.agg #[.int .i64 (loK k : Nat), .int .i64 (hiK k : Nat), .int .i64 k]) ∧ Below w.heap.size w w' :=
 spec_CronBoundsOf.calls k _ _ _ w (by unfold spec_CronBoundsOf.f; rw [low_f, high_f]; rfl)
theorem sizeBounds : (Tryz.prog.info? 185).map (·.size) = some 3 := by kernel_rfl
theorem results_bounds {fn : Func} {p : Tmp} (h : fn.results = #[.cell p 185]) (tmps : Array Value) (w : World) (g : Nat) (cs : Array Value)
  (hp : tmps.getD p undef = .pointer (some ⟨g, 0, none⟩)) (hs : w.heap[g]? = some (.cells cs 185 (0, 0))) (hz : cs.size = 3) :
  (results fn tmps).run Tryz.prog w = .ok (.agg cs) w := by
 have hp' : tmps[p]?.getD undef = .pointer (some ⟨g, 0, none⟩) := by simpa using hp
 have hl : (loadVar 185 ⟨g, 0, none⟩).run Tryz.prog w = .ok (.agg cs) w := run_loadVar_row w g _ _ _ _ _ hs Tryz.underlying185 rfl (by rw [sizeBounds, hz]);simp only [results, h];simp [asAddr, hp', hl]
theorem store3_row {w : World} {g : Nat} {a b c x y z : Value} {T : TypeId} (h : w.heap[g]? = some (.cells #[a, b, c] T (0, 0))) :
  (((w.setCell ⟨g, 0, none⟩ x).setCell ⟨g, 1, none⟩ y).setCell ⟨g, 2, none⟩ z).heap[g]? = some (.cells #[x, y, z] T (0, 0)) := by
 have h1 := heap_setCell_same w g 0 _ _ x h;have h2 := heap_setCell_same _ g 1 _ _ y h1;have h3 := heap_setCell_same _ g 2 _ _ z h2
 simpa using h3
theorem seconds_any (w : World) : Calls Tryz.prog 106 #[] w fun e w' => e = .returned (.agg #[.int .u64 0, .int .u64 59, .map none]) ∧ Below w.heap.size w w' := by
 go_enter Tryz.func106, Tryz.ntmps106
 go_wp2
 refine bodyPost_ret (v := .agg #[.int .u64 0, .int .u64 59, .map none]) ?_ rfl ?_
 ·exact results_bounds (fn := Tryz.f106) (p := 0) rfl _ _ w.heap.size _ rfl (heap_alloc_new w _) rfl
 exact ⟨rfl, (Below.refl _ _).alloc (Nat.le_refl _) _⟩
theorem minutes_any (w : World) : Calls Tryz.prog 107 #[] w fun e w' => e = .returned (.agg #[.int .u64 0, .int .u64 59, .map none]) ∧ Below w.heap.size w w' := by
 go_enter Tryz.func107, Tryz.ntmps107
 go_wp2
 refine bodyPost_ret (v := .agg #[.int .u64 0, .int .u64 59, .map none]) ?_ rfl ?_
 ·exact results_bounds (fn := Tryz.f107) (p := 0) rfl _ _ w.heap.size _ rfl (heap_alloc_new w _) rfl
 exact ⟨rfl, (Below.refl _ _).alloc (Nat.le_refl _) _⟩
theorem hours_any (w : World) : Calls Tryz.prog 108 #[] w fun e w' => e = .returned (.agg #[.int .u64 0, .int .u64 23, .map none]) ∧ Below w.heap.size w w' := by
 go_enter Tryz.func108, Tryz.ntmps108
 go_wp2
 refine bodyPost_ret (v := .agg #[.int .u64 0, .int .u64 23, .map none]) ?_ rfl ?_
 ·exact results_bounds (fn := Tryz.f108) (p := 0) rfl _ _ w.heap.size _ rfl (heap_alloc_new w _) rfl
 exact ⟨rfl, (Below.refl _ _).alloc (Nat.le_refl _) _⟩
theorem dom_any (w : World) : Calls Tryz.prog 109 #[] w fun e w' => e = .returned (.agg #[.int .u64 1, .int .u64 31, .map none]) ∧ Below w.heap.size w w' := by
 go_enter Tryz.func109, Tryz.ntmps109
 go_wp2
 refine bodyPost_ret (v := .agg #[.int .u64 1, .int .u64 31, .map none]) ?_ rfl ?_
 ·exact results_bounds (fn := Tryz.f109) (p := 0) rfl _ _ w.heap.size _ rfl (heap_alloc_new w _) rfl
 exact ⟨rfl, (Below.refl _ _).alloc (Nat.le_refl _) _⟩
end Go.Proofs.YtmecbmgfacpecaaGreatDoor.Cron
namespace Go.Proofs.YtmecbmgfacpecaaGreatDoor.Cron
open Go Go.RowKit Go.Proofs.YtmecbmgfacpecaaGreatDoor.Text Go.Proofs.YtmecbmgfacpecaaGreatDoor.Bits
set_option linter.unusedVariables false
def ErrAt (w w' : World) (g : Nat) (v : Value) : Prop := ∃ w1, Below w.heap.size w w1 ∧ w' = w1.setCell ⟨g, 0, none⟩ v
def ClosureAnswer (w : World) (g : Nat) (r : Option Nat) (e : Ending) (w' : World) : Prop :=
 match r with
 | some b => e = .returned (.int .u64 b) ∧ ErrAt w w' g .nilIface
 | none => ∃ (n : Int) (t : TypeId) (x : Value), e = .returned (.int .u64 n) ∧ ErrAt w w' g (.iface t x)
set_option maxRecDepth 100000 in
theorem closure_any (m : Option Nat) (val : List UInt8 → Option Nat) (Inv : World → Prop) (hR : Reads m val Inv) (lo hi : Nat) (s : ByteArray) (hs : s.size ≤ 4294967296) (h1 : lo ≤ hi) (h2 : hi ≤ 62) (g : Nat) (w : World) (hI : Inv w)
  (hg : g < w.heap.size) (hc : w.cell? ⟨g, 0, none⟩ = some .nilIface) (hf : w.frozen? ⟨g, 0, none⟩ = false) :
  Calls Tryz.prog 104 #[.string s, .agg #[.int .u64 lo, .int .u64 hi, .map m], .pointer (some ⟨g, 0, none⟩)] w (ClosureAnswer w g (fieldS val lo hi s.data.toList)) := by
 have hB0 : ∀ o, Below w.heap.size w (w.alloc o) := fun o => (Below.refl _ _).alloc (Nat.le_refl _) o
 have HC := Lib.hid (fun o => getFieldA m val Inv hR lo hi s hs h1 h2 (w.alloc o) (hR.keeps hI (hB0 o)));generalize fieldS val lo hi s.data.toList = r at *
 go_enter Tryz.func104, Tryz.ntmps104
 go_wp2_with fail
 refine (HC.out _).mono ?_
 cases r with
 | some b =>
  rintro e w2 ⟨rfl, hb2⟩;have hB : Below w.heap.size w w2 := ((Below.refl _ _).alloc (Nat.le_refl _) _).trans (hb2.mono (by simp));have hc2 := (hB.cell (p := ⟨g, 0, none⟩) hg).trans hc;have hf2 := (hB.frozen (p := ⟨g, 0, none⟩) hg).trans hf
  go_wp2_with fail
  go_ret
  exact ⟨rfl, w2, hB, rfl⟩
 | none =>
  rintro e w2 ⟨⟨n, t, x, rfl⟩, hb2⟩;have hB : Below w.heap.size w w2 := ((Below.refl _ _).alloc (Nat.le_refl _) _).trans (hb2.mono (by simp));have hc2 := (hB.cell (p := ⟨g, 0, none⟩) hg).trans hc;have hf2 := (hB.frozen (p := ⟨g, 0, none⟩) hg).trans hf
  go_wp2_with fail
  go_ret
  exact ⟨n, t, x, rfl, w2, hB, rfl⟩
end Go.Proofs.YtmecbmgfacpecaaGreatDoor.Cron
namespace Go.Proofs.YtmecbmgfacpecaaGreatDoor.Cron
open Go Go.RowKit Go.Proofs.YtmecbmgfacpecaaGreatDoor.Text Go.Proofs.YtmecbmgfacpecaaGreatDoor.Bits Go.Proofs.YtmecbmgfacpecaaGreatDoorW.PrintWords Go.Proofs.YtmecbmgfacpecaaGreatDoorW.PrintLast Go.Proofs.YtmecbmgfacpecaaGreatDoorW.PrintMore Go.Proofs.YtmecbmgfacpecaaGreatDoor.Pr
set_option linter.unusedVariables false
theorem wrap_i64_nat {n : Nat} (h : n < 9223372036854775808) : IntKind.i64.wrap (n : Int) = (n : Int) := by
 rw [IntKind.wrap_i64];omega
theorem and_i64 {a b : Nat} (ha : a < 9223372036854775808) (hb : b < 9223372036854775808) : bits .and .i64 (a : Int) (b : Int) = ((a &&& b : Nat) : Int) := by
 have ha' : a % 2 ^ 64 = a := Nat.mod_eq_of_lt (by omega);have hb' : b % 2 ^ 64 = b := Nat.mod_eq_of_lt (by omega);have e : IntKind.i64.bits = 64 := rfl;unfold bits;rw [e]
 show IntKind.i64.wrap ((BitVec.ofInt 64 (a : Int) &&& BitVec.ofInt 64 (b : Int)).toNat : Int) = _
 rw [BitVec.ofInt_natCast, BitVec.ofInt_natCast, BitVec.toNat_and, BitVec.toNat_ofNat, BitVec.toNat_ofNat, ha', hb'];exact wrap_i64_nat (Nat.lt_of_le_of_lt Nat.and_le_left ha)
theorem or_i64 {a b : Nat} (ha : a < 4611686018427387904) (hb : b < 4611686018427387904) : bits .or .i64 (a : Int) (b : Int) = ((a ||| b : Nat) : Int) := by
 have ha' : a % 2 ^ 64 = a := Nat.mod_eq_of_lt (by omega);have hb' : b % 2 ^ 64 = b := Nat.mod_eq_of_lt (by omega);have e : IntKind.i64.bits = 64 := rfl;unfold bits;rw [e]
 show IntKind.i64.wrap ((BitVec.ofInt 64 (a : Int) ||| BitVec.ofInt 64 (b : Int)).toNat : Int) = _
 rw [BitVec.ofInt_natCast, BitVec.ofInt_natCast, BitVec.toNat_or, BitVec.toNat_ofNat, BitVec.toNat_ofNat, ha', hb'];exact wrap_i64_nat (Nat.lt_of_lt_of_le (Nat.or_lt_two_pow (n := 62) ha hb) (by decide))
def placesL : List Nat := [1, 4, 8, 16, 32, 64]
def defaultsL : List ByteArray := [⟨#[48]⟩, ⟨#[48]⟩, ⟨#[48]⟩, ⟨#[42]⟩, ⟨#[42]⟩, ⟨#[42]⟩]
def optS (o : Nat) : Nat := if 0 < o &&& 2 then o ||| 1 else o
def optD (o : Nat) : Nat := if 0 < o &&& 128 then o ||| 64 else o
def optAll (o : Nat) : Nat := optD (optS o)
def nOpt (o : Nat) : Nat := (if 0 < o &&& 2 then 1 else 0) + (if 0 < optS o &&& 128 then 1 else 0)
def takenN (o : Nat) (ps : List Nat) : Nat := (ps.filter fun p => decide (0 < o &&& p)).length
def fillL (o : Nat) : List Nat → List ByteArray → List ByteArray → List ByteArray
 | p :: ps, d :: ds, fs => if 0 < o &&& p then (match fs with | f :: fs => f :: fillL o ps ds fs | [] => d :: fillL o ps ds []) else d :: fillL o ps ds fs
 | _, _, _ => []
def normF (fs : List ByteArray) (o : Nat) : Option (List ByteArray) :=
 if 1 < nOpt o then none
 else if fs.length < takenN (optAll o) placesL - nOpt o ∨ takenN (optAll o) placesL < fs.length then none
 else some (fillL (optAll o) placesL defaultsL
  (if 0 < nOpt o ∧ fs.length = takenN (optAll o) placesL - nOpt o then (if 0 < optAll o &&& 128 then fs ++ [⟨#[42]⟩] else ⟨#[48]⟩ :: fs) else fs))
structure Ints (w : World) (g n cap : Nat) (l : List Nat) : Prop where
 len : n = l.length
 lt : g < w.heap.size
 at_ : ∀ (i : Nat) x, l[i]? = some x → w.cell? ⟨g, i, none⟩ = some (.int .i64 (x : Nat))
theorem Ints.below {w w' : World} {g n cap : Nat} {l : List Nat} (h : Ints w g n cap l) (hb : Below w.heap.size w w') : Ints w' g n cap l :=
 ⟨h.len, Nat.lt_of_lt_of_le h.lt hb.size, fun i x hx => (hb.cell (p := ⟨g, i, none⟩) h.lt).trans (h.at_ i x hx)⟩
theorem defaults_any (w : World) : Calls Tryz.prog 149 #[] w fun e w' => ∃ g c, e = .returned (.slice (some ⟨g, 0, none⟩) 6 c) ∧ w.heap.size ≤ g ∧ Texts w' g 6 c defaultsL ∧ Below w.heap.size w w' := by
 refine (cron_defaults.calls _ w rfl).mono ?_;rintro e w' ⟨v, rfl, hR, hb⟩;obtain ⟨g, n, cap, rfl, hg, ht⟩ := texts_of_R hR (by simp);have hn : n = 6 := ht.len;subst hn;exact ⟨g, cap, rfl, hg, ht, hb⟩
theorem places_any (w : World) : Calls Tryz.prog 148 #[] w fun e w' => ∃ g c, e = .returned (.slice (some ⟨g, 0, none⟩) 6 c) ∧ w.heap.size ≤ g ∧ Ints w' g 6 c placesL ∧ Below w.heap.size w w' := by
 refine (cron_places.calls _ w rfl).mono ?_;rintro e w' ⟨v, rfl, hR, hb⟩;have ho := Kd.own_of_R hR;obtain ⟨_, h1 | ⟨g, cap, cur, rfl, hg, hc, hn, hm, hs, ht⟩⟩ := ho
 ·exact absurd (List.length_eq_zero_iff.1 h1.2) (by simp)
 ·refine ⟨g, cap, rfl, hg, ⟨rfl, (Array.getElem?_eq_some_iff.1 hc).1, fun i x hx => ?_⟩, hb⟩;have hi : i < 6 := (List.getElem?_eq_some_iff.1 hx).1;have := (Kd.R_cell (0 : Int) hR (i : Int) (by omega) (by simp; omega)).1;rw [Int.toNat_natCast] at this;rw [this]
  match i, hi, hx with
  | 0, _, hx => cases hx; rfl
  | 1, _, hx => cases hx; rfl
  | 2, _, hx => cases hx; rfl
  | 3, _, hx => cases hx; rfl
  | 4, _, hx => cases hx; rfl
  | 5, _, hx => cases hx; rfl
end Go.Proofs.YtmecbmgfacpecaaGreatDoor.Cron
namespace Go.Proofs.YtmecbmgfacpecaaGreatDoor.Cron
open Go Go.RowKit
set_option linter.unusedVariables false
theorem takenN_cons (q p : Nat) (ps : List Nat) : takenN q (p :: ps) = (if 0 < q &&& p then 1 else 0) + takenN q ps := by
 unfold takenN
 by_cases h : 0 < q &&& p
 ·rw [List.filter_cons_of_pos (by simpa using h), if_pos h, List.length_cons, Nat.add_comm]
 ·rw [List.filter_cons_of_neg (by simpa using h), if_neg h, Nat.zero_add]
theorem fill_length (q : Nat) : ∀ (ps : List Nat) (ds fs : List ByteArray), ps.length = ds.length → (fillL q ps ds fs).length = ps.length
 | [], [], _, _ => rfl
 | p :: ps, d :: ds, fs, h => by
  have h' : ps.length = ds.length := by simpa using h
  unfold fillL
  by_cases hp : 0 < q &&& p
  ·rw [if_pos hp]
   cases fs with
   | nil => simp [fill_length q ps ds [] h']
   | cons f fs => simp [fill_length q ps ds fs h']
  ·rw [if_neg hp];simp [fill_length q ps ds fs h']
theorem fill_at (q : Nat) : ∀ (ps : List Nat) (ds fs : List ByteArray) (i : Nat) (h : i < ps.length), ps.length = ds.length → takenN q ps ≤ fs.length →
  (fillL q ps ds fs)[i]? = if 0 < q &&& ps[i] then fs[takenN q (ps.take i)]? else ds[i]?
 | p :: ps, d :: ds, fs, i, h, hl, ht => by
  have hl' : ps.length = ds.length := by simpa using hl
  rw [takenN_cons] at ht;unfold fillL
  by_cases hp : 0 < q &&& p
  ·rw [if_pos hp] at ht ⊢
   cases fs with
   | nil => simp at ht
   | cons f fs =>
    cases i with
    | zero => simp [hp, takenN]
    | succ i =>
     have hi : i < ps.length := by simpa using h
     have ih := fill_at q ps ds fs i hi hl' (by simp at ht; omega);simp only [List.getElem?_cons_succ, List.getElem_cons_succ, List.take_succ_cons, takenN_cons, if_pos hp];rw [ih, Nat.add_comm 1, List.getElem?_cons_succ]
  ·rw [if_neg hp] at ht ⊢
   cases i with
   | zero => simp [hp]
   | succ i =>
    have hi : i < ps.length := by simpa using h
    have ih := fill_at q ps ds fs i hi hl' (by omega);simp only [List.getElem?_cons_succ, List.getElem_cons_succ, List.take_succ_cons, takenN_cons, if_neg hp, Nat.zero_add];exact ih
def fillRow (F ds : List ByteArray) (i : Nat) : List ByteArray := F.take i ++ ds.drop i
theorem fillRow_same {F ds : List ByteArray} {i : Nat} {x : ByteArray} (hF : F[i]? = some x) (hd : ds[i]? = some x) : fillRow F ds (i + 1) = fillRow F ds i := by
 unfold fillRow;obtain ⟨h1, h2⟩ := List.getElem?_eq_some_iff.1 hd;rw [List.take_add_one, hF, List.drop_eq_getElem_cons h1, h2];simp
theorem fillRow_set {F ds : List ByteArray} {i : Nat} {x : ByteArray} (hF : F[i]? = some x) (hd : i < ds.length) : (fillRow F ds i).set i x = fillRow F ds (i + 1) := by
 unfold fillRow;have hl : i < F.length := (List.getElem?_eq_some_iff.1 hF).1;rw [List.take_add_one, hF, List.drop_eq_getElem_cons hd];have ht : (F.take i).length = i := by rw [List.length_take]; omega
 rw [List.set_append_right _ _ (by omega), ht, Nat.sub_self, List.set_cons_zero, Option.toList_some, List.append_assoc, List.singleton_append]
theorem fillRow_zero (F ds : List ByteArray) : fillRow F ds 0 = ds := by simp [fillRow]
theorem fillRow_end {F ds : List ByteArray} {i : Nat} (h1 : F.length ≤ i) (h2 : ds.length ≤ i) : fillRow F ds i = F := by
 unfold fillRow;rw [List.take_of_length_le h1, List.drop_eq_nil_of_le h2, List.append_nil]
end Go.Proofs.YtmecbmgfacpecaaGreatDoor.Cron
namespace Go.Proofs.YtmecbmgfacpecaaGreatDoor.Cron
open Go Go.RowKit Go.Lib
set_option linter.unusedVariables false
def lowRune (r : Nat) : List UInt8 :=
 if 65 ≤ r ∧ r ≤ 90 then [UInt8.ofNat (r + 32)] else if r = 304 then [105] else if r = 8490 then [107] else (Utf8.encode (r : Int)).data.toList
def lowGo (s : ByteArray) : Nat → Nat → List UInt8
 | 0, _ => []
 | f + 1, pos => if pos < s.size then lowRune (Utf8.decode s pos).1 ++ lowGo s f (pos + (Utf8.decode s pos).2) else []
def lowS (s : ByteArray) : List UInt8 := lowGo s s.size 0
theorem lowGo_end (s : ByteArray) (f pos : Nat) (h : ¬ pos < s.size) : lowGo s f pos = [] := by
 cases f with
 | zero => rfl
 | succ f => rw [lowGo, if_neg h]
theorem info_byte : (Tryz.prog.info? 5).map (fun i => (i.zero, i.size, i.bytes)) = some (some (.int .u8 0), 1, 1) := by kernel_rfl
def cells8 (l : List UInt8) : List Value := l.map fun b => Value.int .u8 b.toNat
theorem cells8_str (s : ByteArray) : strCells s = cells8 s.data.toList := rfl
theorem cells8_append (a b : List UInt8) : cells8 (a ++ b) = cells8 a ++ cells8 b := by simp [cells8]
theorem one_new (w : World) (x : Value) (t : TypeId) : ∀ j u, [x][j]? = some u → (w.alloc (.cells #[x] t)).cell? ((⟨w.heap.size, 0, none⟩ : Addr).add j) = some u := by
 intro j u hj
 match j, hj with
 | 0, hj => simp at hj; subst hj; simp [Addr.add]
 | (j + 1), hj => simp at hj
theorem run_rune_string (w : World) (r : Nat) : (convert 21 9 (.int .i32 (r : Int))).run Tryz.prog w = .ok (.string (Utf8.encode (r : Int))) w := by
 simp [convert, run_underlying Tryz.underlying21, run_underlying Tryz.underlying9, Conv.intToString]
theorem conv_own {w : World} {B : Nat} {v : Value} {l : List UInt8} (h : w.ownsRow B 5 1 v l.length (cells8 l)) : (convert 86 9 v).run Tryz.prog w = .ok (.string ⟨l.toArray⟩) w := by
 rcases h.2 with ⟨rfl, h0⟩ | ⟨g, cap, cur, rfl, hb, hg, hle, hcap, hsz, ht⟩
 ·have : l = [] := List.length_eq_zero_iff.1 h0;subst this;rw [run_convert_bytes_string w _ _ _ none 0 0 Tryz.underlying86 Tryz.underlying5 Tryz.underlying9];rfl
 ·exact run_convert_bytes_back w _ _ _ ⟨g, 0, none⟩ cap l Tryz.underlying86 Tryz.underlying5 Tryz.underlying9 (fun j hj => h.cells (g := g) rfl j _ (by simp [cells8, hj]))
theorem low_step {w W w1 : World} {v : Value} {n : Nat} {xs : List Value} {s : ByteArray} {p : Nat} {e : TypeId} (o : Obj) (hb : Below w.heap.size w W) (hit : W.heap[w.heap.size]? = some (.stringIter s p)) (hown : W.ownsRow w.heap.size e 1 v n xs)
  (hgrow : (W.alloc o).grownBy w1 v.ownBlock) : w1.heap[w.heap.size]? = some (.stringIter s p) ∧ Below w.heap.size w w1 := by
 have hlt : w.heap.size < W.heap.size := (Array.getElem?_eq_some_iff.1 hit).1;refine ⟨?_, ?_⟩
 ·rw [hgrow.block w.heap.size (by simp; omega) (own_ne_iter hown hit), heap_alloc_old W o hlt];exact hit
 ·exact (hb.alloc hb.size o).grown hgrow (by simp; omega) (fun k hk => (hown.lt k hk).1)
theorem low_step0 {w W w1 : World} {v : Value} {n : Nat} {xs : List Value} {s : ByteArray} {p : Nat} {e : TypeId} (hb : Below w.heap.size w W) (hit : W.heap[w.heap.size]? = some (.stringIter s p)) (hown : W.ownsRow w.heap.size e 1 v n xs)
  (hgrow : W.grownBy w1 v.ownBlock) : w1.heap[w.heap.size]? = some (.stringIter s p) ∧ Below w.heap.size w w1 := by
 have hlt : w.heap.size < W.heap.size := (Array.getElem?_eq_some_iff.1 hit).1;refine ⟨?_, ?_⟩
 ·rw [hgrow.block w.heap.size hlt (own_ne_iter hown hit)];exact hit
 ·exact hb.grown hgrow (by omega) (fun k hk => (hown.lt k hk).1)
set_option maxRecDepth 100000 in
set_option maxHeartbeats 4000000 in
theorem zzLower_any (s : ByteArray) (hs : s.size ≤ 4294967296) (w : World) :
  Calls Tryz.prog 206 #[.string s] w fun e w' => e = .returned (.string ⟨(lowS s).toArray⟩) ∧ Below w.heap.size w w' := by
 obtain ⟨i0, hi, hz0, hz1, hz2⟩ := info_parts info_byte
 go_enter Tryz.func206, Tryz.ntmps206
 go_wp2
 go_loopg [3] s.size (fun gf s3 wx => ∃ (pos : Nat) (acc : List UInt8), wx.ownsRow w.heap.size 5 1 s3 acc.length (cells8 acc) ∧ wx.heap[w.heap.size]? = some (.stringIter s pos) ∧ Below w.heap.size w wx ∧
   Hid (acc ++ lowGo s gf pos = lowS s) ∧ s.size ≤ pos + gf ∧ pos ≤ s.size ∧ acc.length ≤ 4 * pos)
 case atStart =>
  exact ⟨0, [], World.ownsRow_nil _ _ _ _, World.iter_heap w s 0, (Below.refl _ _).alloc (Nat.le_refl _) _, Lib.hid rfl, by omega, Nat.zero_le _, by simp⟩
 case round =>
  obtain ⟨pos, acc, hown, hit, hbw, HG, hfu, hps, hal⟩ := hrel
  by_cases hlt : pos < s.size
  ·obtain ⟨g', rfl⟩ : ∃ g', gk = g' + 1 := ⟨gk - 1, by omega⟩
   have hnx : ∀ ty, (Instr.next (.pointer (some ⟨w.heap.size, 0, none⟩)) true ty).run Tryz.prog wr = _ := fun ty => Lib.run_next_any_at wr w.heap.size s pos ty hit hlt
   have hwd := Lib.width_pos s pos
   have hwn : pos + (Utf8.decode s pos).2 ≤ s.size := by
    have := Lib.decodeN_le_n' (s.size - pos) (s.get! pos).toNat (s.get! (pos + 1)).toNat (s.get! (pos + 2)).toNat (s.get! (pos + 3)).toNat (by omega);rw [← Lib.decode_at] at this;omega
   have hrl := Lib.rune_le s pos;have hG := HG.out;rw [lowGo, if_pos hlt] at hG;generalize (Utf8.decode s pos).1 = R at *;generalize (Utf8.decode s pos).2 = K at *;have hit2 := Lib.iterAt_heap wr w.heap.size s pos (pos + K) hit;have hbw2 := Lib.below_iterAt hbw (k := w.heap.size) (Nat.le_refl _) s (pos + K);have hown2 := own_iterAt hown hit (pos + K);obtain ⟨W, hWd⟩ : ∃ W, wr.iterAt w.heap.size s (pos + K) = W := ⟨_, rfl⟩
   rw [hWd] at hnx hit2 hbw2 hown2
   have HG2 := Lib.hid hG;clear hown hit hbw HG hG;have hne := own_ne_iter hown2 hit2;have hz : w.heap.size < W.heap.size := (Array.getElem?_eq_some_iff.1 hit2).1
   by_cases c1 : 65 ≤ R ∧ R ≤ 90
   ·obtain ⟨c1a, c1b⟩ := c1;have hc : lowRune R = [UInt8.ofNat (R + 32)] := by unfold lowRune; rw [if_pos ⟨c1a, c1b⟩]
    rw [hc] at HG2
    go_wp2_with (at_builtin; refine wpList_append_own _ rfl _ _ 86 rfl w.heap.size 5 i0 (.int .u8 0) 1 1 Tryz.underlying86 hi hz0 hz1 hz2 rfl (by decide) _ _ _ rfl (hown2.alloc _) ⟨W.heap.size, 0, none⟩ 1 1 [_] rfl rfl (one_new W _ _) (by intro u hu; simp at hu; subst hu; rfl) (by unfold maxLen; omega) (by omega) (by simp; omega) ?_; intro v' w1 hown' hgrow _)
    obtain ⟨hit3, hbw3⟩ := low_step _ hbw2 hit2 hown2 hgrow
    have hown3 : w1.ownsRow w.heap.size 5 1 v' (acc ++ [UInt8.ofNat (R + 32)]).length (cells8 (acc ++ [UInt8.ofNat (R + 32)])) := by
     rw [List.length_append, cells8_append]
     have hv : (R : Int) - 65 + 97 = ((UInt8.ofNat (R + 32)).toNat : Int) := by
      rw [UInt8.toNat_ofNat'];omega
     rw [hv] at hown';exact hown'
    clear hown' hgrow hown2 hit2 hbw2 hne
    go_roundg g'
    case measure => omega
    case rel => exact ⟨pos + K, acc ++ [UInt8.ofNat (R + 32)], hown3, hit3, hbw3, Lib.hid (by rw [List.append_assoc]; exact HG2.out), by omega, hwn, by simp; omega⟩
   ·have hn1 : ¬ ((65 : Int) ≤ R ∧ (R : Int) ≤ 90) := by omega
    have hR1 : (65 : Int) ≤ R → 90 < (R : Int) := by omega
    by_cases c2 : R = 304
    ·subst c2;have hc : lowRune 304 = [105] := by unfold lowRune; rw [if_neg (by omega), if_pos rfl]
     rw [hc] at HG2
     go_wp2_with (at_builtin; refine wpList_append_own _ rfl _ _ 86 rfl w.heap.size 5 i0 (.int .u8 0) 1 1 Tryz.underlying86 hi hz0 hz1 hz2 rfl (by decide) _ _ _ rfl (hown2.alloc _) ⟨W.heap.size, 0, none⟩ 1 1 [_] rfl rfl (one_new W _ _) (by intro u hu; simp at hu; subst hu; rfl) (by unfold maxLen; omega) (by omega) (by simp; omega) ?_; intro v' w1 hown' hgrow _)
     obtain ⟨hit3, hbw3⟩ := low_step _ hbw2 hit2 hown2 hgrow
     have hown3 : w1.ownsRow w.heap.size 5 1 v' (acc ++ [105]).length (cells8 (acc ++ [105])) := by
      rw [List.length_append, cells8_append];exact hown'
     clear hown' hgrow hown2 hit2 hbw2 hne
     go_roundg g'
     case measure => omega
     case rel => exact ⟨pos + K, acc ++ [105], hown3, hit3, hbw3, Lib.hid (by rw [List.append_assoc]; exact HG2.out), by omega, hwn, by simp; omega⟩
    ·by_cases c3 : R = 8490
     ·subst c3;have hc : lowRune 8490 = [107] := by unfold lowRune; rw [if_neg (by omega), if_neg (by omega), if_pos rfl]
      rw [hc] at HG2
      go_wp2_with (at_builtin; refine wpList_append_own _ rfl _ _ 86 rfl w.heap.size 5 i0 (.int .u8 0) 1 1 Tryz.underlying86 hi hz0 hz1 hz2 rfl (by decide) _ _ _ rfl (hown2.alloc _) ⟨W.heap.size, 0, none⟩ 1 1 [_] rfl rfl (one_new W _ _) (by intro u hu; simp at hu; subst hu; rfl) (by unfold maxLen; omega) (by omega) (by simp; omega) ?_; intro v' w1 hown' hgrow _)
      obtain ⟨hit3, hbw3⟩ := low_step _ hbw2 hit2 hown2 hgrow
      have hown3 : w1.ownsRow w.heap.size 5 1 v' (acc ++ [107]).length (cells8 (acc ++ [107])) := by
       rw [List.length_append, cells8_append];exact hown'
      clear hown' hgrow hown2 hit2 hbw2 hne
      go_roundg g'
      case measure => omega
      case rel => exact ⟨pos + K, acc ++ [107], hown3, hit3, hbw3, Lib.hid (by rw [List.append_assoc]; exact HG2.out), by omega, hwn, by simp; omega⟩
     ·have hc : lowRune R = (Utf8.encode (R : Int)).data.toList := by unfold lowRune; rw [if_neg c1, if_neg c2, if_neg c3]
      rw [hc] at HG2;have hel := encode_size_le (R : Int);have hcv := fun w' : World => run_rune_string w' R
      generalize Utf8.encode (R : Int) = E at *;have hem : E.data.toList.length = E.size := Array.length_toList;have hc2 : ((R : Int) == 304) = false := by simpa using (by omega : ¬ (R : Int) = 304)
      have hc3 : ((R : Int) == 8490) = false := by simpa using (by omega : ¬ (R : Int) = 8490)
      by_cases c4 : 65 ≤ R
      ·have c5 : ¬ R ≤ 90 := by omega
       go_wp2_with (at_builtin; refine wpList_append_own_string _ rfl _ _ 86 9 rfl w.heap.size 5 i0 Tryz.underlying86 Tryz.underlying9 hi hz0 hz1 hz2 _ _ _ rfl hown2 _ rfl (by unfold maxLen; omega) (by omega) (by omega) ?_; intro v' w1 hown' hgrow _)
       obtain ⟨hit3, hbw3⟩ := low_step0 hbw2 hit2 hown2 hgrow
       have hown3 : w1.ownsRow w.heap.size 5 1 v' (acc ++ E.data.toList).length (cells8 (acc ++ E.data.toList)) := by
        rw [List.length_append, cells8_append, ← cells8_str, hem];exact hown'
       clear hown' hgrow hown2 hit2 hbw2 hne
       go_roundg g'
       case measure => omega
       case rel => exact ⟨pos + K, acc ++ E.data.toList, hown3, hit3, hbw3, Lib.hid (by rw [List.append_assoc]; exact HG2.out), by omega, hwn, by rw [List.length_append]; omega⟩
      ·go_wp2_with (at_builtin; refine wpList_append_own_string _ rfl _ _ 86 9 rfl w.heap.size 5 i0 Tryz.underlying86 Tryz.underlying9 hi hz0 hz1 hz2 _ _ _ rfl hown2 _ rfl (by unfold maxLen; omega) (by omega) (by omega) ?_; intro v' w1 hown' hgrow _)
       obtain ⟨hit3, hbw3⟩ := low_step0 hbw2 hit2 hown2 hgrow
       have hown3 : w1.ownsRow w.heap.size 5 1 v' (acc ++ E.data.toList).length (cells8 (acc ++ E.data.toList)) := by
        rw [List.length_append, cells8_append, ← cells8_str, hem];exact hown'
       clear hown' hgrow hown2 hit2 hbw2 hne
       go_roundg g'
       case measure => omega
       case rel => exact ⟨pos + K, acc ++ E.data.toList, hown3, hit3, hbw3, Lib.hid (by rw [List.append_assoc]; exact HG2.out), by omega, hwn, by rw [List.length_append]; omega⟩
  ·have hpe : pos = s.size := by omega
   have hnx := fun ty => run_next_end_at (P := Tryz.prog) wr w.heap.size s pos ty hit hlt
   have hacc : acc = lowS s := by
    have := HG.out;rw [lowGo_end _ _ _ hlt, List.append_nil] at this;exact this
   have hcv := conv_own hown;rw [hacc] at hcv;clear HG hown
   go_wp2_with fail
   go_ret
   exact ⟨rfl, hbw⟩
end Go.Proofs.YtmecbmgfacpecaaGreatDoor.Cron
namespace Go.Proofs.YtmecbmgfacpecaaGreatDoor.Cron
open Go Go.RowKit Go.Lib Go.Proofs.YtmecbmgfacpecaaGreatDoorW.PrintWords Go.Proofs.YtmecbmgfacpecaaGreatDoorW.PrintLast Go.Proofs.YtmecbmgfacpecaaGreatDoorW.PrintMore Go.Proofs.YtmecbmgfacpecaaGreatDoor.Pr
set_option linter.unusedVariables false
def spaceZ (r : Nat) : Bool :=
 decide (r = 9 ∨ r = 10 ∨ r = 11 ∨ r = 12 ∨ r = 13 ∨ r = 32 ∨ r = 133 ∨ r = 160 ∨ r = 5760 ∨ r = 8232 ∨ r = 8233 ∨ r = 8239 ∨ r = 8287 ∨ r = 12288 ∨ (8192 ≤ r ∧ r ≤ 8202))
theorem space_f (r : Nat) : cron_zzSpace.f (r : Int) = some (spaceZ r) := by
 unfold cron_zzSpace.f
 by_cases h : r = 9 ∨ r = 10 ∨ r = 11 ∨ r = 12 ∨ r = 13 ∨ r = 32 ∨ r = 133 ∨ r = 160 ∨ r = 5760 ∨ r = 8232 ∨ r = 8233 ∨ r = 8239 ∨ r = 8287 ∨ r = 12288
 ·have e : spaceZ r = true := by
   unfold spaceZ
   apply decide_eq_true
   omega
  rw [e]
  rcases h with rfl | rfl | rfl | rfl | rfl | rfl | rfl | rfl | rfl | rfl | rfl | rfl | rfl | rfl <;> rfl
 ·repeat rw [if_neg (by omega)]
  by_cases h2 : 8192 ≤ r
  ·rw [if_pos (by omega)]
   congr 1
   unfold spaceZ;rw [Bool.eq_iff_iff];simp only [decide_eq_true_eq];omega
  ·rw [if_neg (by omega)]
   congr 1
   unfold spaceZ
   symm
   apply decide_eq_false
   omega
theorem space_any (r : Nat) (w : World) : Calls Tryz.prog 144 #[.int .i32 r] w fun e w' => e = .returned (.bool (spaceZ r)) ∧ ∃ n, w' = w.drewN n := by
 refine (cron_zzSpace.calls r (spaceZ r) w (space_f r)).mono fun e w' ⟨he, hw⟩ => ⟨he, hw.out⟩
def fieldsZ (s : ByteArray) : List ByteArray := Lib.goFieldsP spaceZ s
theorem info_string : (Tryz.prog.info? 9).map (fun i => (i.zero, i.size, i.bytes)) = some (some (.string ⟨#[]⟩), 1, 16) := by kernel_rfl
def spanS (s : ByteArray) (x : Nat × Nat) : Value := .string (s.extract x.1 x.2)
set_option maxRecDepth 100000 in
set_option maxHeartbeats 4000000 in
theorem zzFields_any (s : ByteArray) (hs : s.size ≤ 4294967296) (w : World) :
  Calls Tryz.prog 102 #[.string s] w fun e w' => ∃ v, e = .returned v ∧ w'.ownsRow w.heap.size 9 1 v (fieldsZ s).length ((fieldsZ s).map Value.string) ∧ Below w.heap.size w w' := by
 have hGF : (fieldsZ s).map Value.string = (Lib.spansOfP spaceZ s).map (spanS s) := by
  unfold fieldsZ Lib.goFieldsP;rw [List.map_map];rfl
 have hGL : (fieldsZ s).length = (Lib.spansOfP spaceZ s).length := by
  unfold fieldsZ Lib.goFieldsP;rw [List.length_map]
 rw [hGF, hGL];clear hGF hGL;obtain ⟨i0, hi, hz0, hz1, hz2⟩ := info_parts info_string
 go_enter Tryz.func102, Tryz.ntmps102
 go_wp2
 go_loopg [3, 4] s.size (fun gf s3 s4 wx => ∃ (pos : Nat) (st : Option Nat) (acc : List (Nat × Nat)) (z : Int), s4 = .int .i64 z ∧ (st = none → z < 0) ∧ (∀ a, st = some a → z = (a : Int)) ∧ -9223372036854775808 ≤ z ∧
   wx.ownsRow w.heap.size 9 1 s3 acc.length (acc.map (spanS s)) ∧ wx.heap[w.heap.size]? = some (.stringIter s pos) ∧ Below w.heap.size w wx ∧
   Hid (Lib.spansFromP spaceZ s gf pos st acc = Lib.spansFromP spaceZ s s.size 0 none []) ∧ s.size ≤ pos + gf ∧ pos ≤ s.size ∧ acc.length ≤ pos ∧ (∀ a, st = some a → a < pos))
 case atStart =>
  exact ⟨0, none, [], -1, rfl, fun _ => by omega, (fun a h => by cases h), by omega, World.ownsRow_nil _ _ _ _, World.iter_heap w s 0, (Below.refl _ _).alloc (Nat.le_refl _) _, Lib.hid rfl, by omega, Nat.zero_le _, Nat.le_refl _, (fun a h => by cases h)⟩
 case round =>
  obtain ⟨pos, st, acc, z, rfl, hzn, hzs, hzl, hown, hit, hbw, HG, hfu, hps, hal, hst⟩ := hrel
  by_cases hlt : pos < s.size
  ·obtain ⟨g', rfl⟩ : ∃ g', gk = g' + 1 := ⟨gk - 1, by omega⟩
   have hnx : ∀ ty, (Instr.next (.pointer (some ⟨w.heap.size, 0, none⟩)) true ty).run Tryz.prog wr = _ := fun ty => Lib.run_next_any_at wr w.heap.size s pos ty hit hlt
   have hwd := Lib.width_pos s pos
   have hwn : pos + (Utf8.decode s pos).2 ≤ s.size := by
    have := Lib.decodeN_le_n' (s.size - pos) (s.get! pos).toNat (s.get! (pos + 1)).toNat (s.get! (pos + 2)).toNat (s.get! (pos + 3)).toNat (by omega);rw [← Lib.decode_at] at this;omega
   have hrl := Lib.rune_le s pos;have hG := HG.out;simp only [Lib.spansFromP, hlt, if_true] at hG;generalize (Utf8.decode s pos).1 = R at *;generalize (Utf8.decode s pos).2 = K at *;have hit2 := Lib.iterAt_heap wr w.heap.size s pos (pos + K) hit;have hbw2 := Lib.below_iterAt hbw (k := w.heap.size) (Nat.le_refl _) s (pos + K);have hown2 := own_iterAt hown hit (pos + K);obtain ⟨W, hWd⟩ : ∃ W, wr.iterAt w.heap.size s (pos + K) = W := ⟨_, rfl⟩
   rw [hWd] at hnx hit2 hbw2 hown2
   have HS := Lib.hid (space_any R W)
   cases hsp : spaceZ R
   ·rw [hsp] at hG HS
    simp only [Bool.false_eq_true, if_false] at hG;have HG2 := Lib.hid hG;clear hown hit hbw HG hG
    cases st with
    | none =>
     have hz0' : z < 0 := hzn rfl
     go_wp2_with (go_at_call 144; go_must (refine (HS.out).mono ?_); rintro e W' ⟨rfl, q, rfl⟩)
     go_roundg g'
     case measure => omega
     case rel => exact ⟨pos + K, some pos, acc, pos, rfl, (fun h => by cases h), fun a h => by cases h; rfl, by omega, own_drewN hown2 q, hit2, pw_below_drewN hbw2 q, HG2, by omega, hwn, by omega, fun a h => by cases h; omega⟩
    | some a =>
     have hza : z = (a : Int) := hzs a rfl;subst hza
     go_wp2_with (go_at_call 144; go_must (refine (HS.out).mono ?_); rintro e W' ⟨rfl, q, rfl⟩)
     go_roundg g'
     case measure => omega
     case rel => exact ⟨pos + K, some a, acc, a, rfl, (fun h => by cases h), fun b h => by cases h; rfl, by omega, own_drewN hown2 q, hit2, pw_below_drewN hbw2 q, HG2, by omega, hwn, by omega, fun b h => by cases h; have := hst a rfl; omega⟩
   ·rw [hsp] at hG HS
    simp only [if_true] at hG;have HG2 := Lib.hid hG;clear hown hit hbw HG hG
    cases st with
    | none =>
     have hz0' : z < 0 := hzn rfl
     go_wp2_with (go_at_call 144; go_must (refine (HS.out).mono ?_); rintro e W' ⟨rfl, q, rfl⟩)
     go_roundg g'
     case measure => omega
     case rel => exact ⟨pos + K, none, acc, z, rfl, fun _ => hz0', (fun a h => by cases h), hzl, own_drewN hown2 q, hit2, pw_below_drewN hbw2 q, HG2, by omega, hwn, by omega, (fun a h => by cases h)⟩
    | some a =>
     have hza : z = (a : Int) := hzs a rfl;subst hza;have hapos := hst a rfl;have hz : w.heap.size < W.heap.size := (Array.getElem?_eq_some_iff.1 hit2).1
     go_wp2_with fail
     refine (HS.out).mono ?_;rintro e W' ⟨rfl, q, rfl⟩;have hown3 := own_drewN hown2 q;have hbw3 := pw_below_drewN hbw2 q;have hit3 : (W.drewN q).heap[w.heap.size]? = some (.stringIter s (pos + K)) := hit2;have hz3 : w.heap.size < (W.drewN q).heap.size := hz;clear hown2 hbw2 hit2 hz;generalize W.drewN q = W3 at *
     go_wp2_with (at_builtin; refine wpList_append_own _ rfl _ _ 33 rfl w.heap.size 9 i0 (.string ⟨#[]⟩) 1 16 Tryz.underlying33 hi hz0 hz1 hz2 rfl (by decide) _ _ _ rfl (hown3.alloc _) ⟨W3.heap.size, 0, none⟩ 1 1 [_] rfl rfl (one_new W3 _ _) (by intro u hu; simp at hu; subst hu; rfl) (by unfold maxLen; omega) (by omega) (by simp; omega) ?_; intro v' w1 hown' hgrow _)
     obtain ⟨hit4, hbw4⟩ := low_step _ hbw3 hit3 hown3 hgrow
     have hown4 : w1.ownsRow w.heap.size 9 1 v' (acc ++ [(a, pos)]).length ((acc ++ [(a, pos)]).map (spanS s)) := by
      rw [List.length_append, List.map_append];exact hown'
     clear hown' hgrow hown3 hit3 hbw3
     go_roundg g'
     case measure => omega
     case rel => exact ⟨pos + K, none, acc ++ [(a, pos)], -1, rfl, fun _ => by omega, (fun a h => by cases h), by omega, hown4, hit4, hbw4, HG2, by omega, hwn, by simp; omega, (fun a h => by cases h)⟩
  ·have hnx := fun ty => run_next_end_at (P := Tryz.prog) wr w.heap.size s pos ty hit hlt
   have hend : Lib.spansOfP spaceZ s = Lib.closeSpans s (acc, st) := by
    have := HG.out;rw [Lib.spansFromP_end _ _ _ _ _ _ hlt] at this;unfold Lib.spansOfP;rw [← this]
   have hz3 : w.heap.size < wr.heap.size := (Array.getElem?_eq_some_iff.1 hit).1
   cases st with
   | none =>
    have hz0' : z < 0 := hzn rfl;have hE : Lib.spansOfP spaceZ s = acc := hend;have HE := Lib.hid hE;clear HG hend hE
    go_wp2_with fail
    go_ret
    refine ⟨_, rfl, ?_, hbw⟩;rw [HE.out];exact hown
   | some a =>
    have hza : z = (a : Int) := hzs a rfl;subst hza;have hapos := hst a rfl;have hE : Lib.spansOfP spaceZ s = acc ++ [(a, s.size)] := hend;have HE := Lib.hid hE;clear HG hend hE
    go_wp2_with (at_builtin; refine wpList_append_own _ rfl _ _ 33 rfl w.heap.size 9 i0 (.string ⟨#[]⟩) 1 16 Tryz.underlying33 hi hz0 hz1 hz2 rfl (by decide) _ _ _ rfl (hown.alloc _) ⟨wr.heap.size, 0, none⟩ 1 1 [_] rfl rfl (one_new wr _ _) (by intro u hu; simp at hu; subst hu; rfl) (by unfold maxLen; omega) (by omega) (by simp; omega) ?_; intro v' w1 hown' hgrow _)
    obtain ⟨hit4, hbw4⟩ := low_step _ hbw hit hown hgrow
    go_ret
    refine ⟨_, rfl, ?_, hbw4⟩;rw [HE.out, List.length_append, List.map_append];exact hown'
end Go.Proofs.YtmecbmgfacpecaaGreatDoor.Cron
