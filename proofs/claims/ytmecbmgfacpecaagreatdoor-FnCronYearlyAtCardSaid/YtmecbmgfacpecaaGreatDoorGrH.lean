/- Lemmas and walks on the way to the law, merged by wip/tools/pack.py: Closure, Options, Fill, Lower, ZZFields, Normal. Conditions: none. -/
import Derived.Test.YtmecbmgfacpecaaGreatDoorGrG
import Derived.Test.YtmecbmgfacpecaaGreatDoorGrF
import Derived.Test.YtmecbmgfacpecaaGreatDoorGrE
import Derived.Test.YtmecbmgfacpecaaGreatDoorPrA
import Derived.Lib.OthersKept
import Derived.Lib.AppendStr
import Derived.Lib.TrimU
import Derived.Deep.LoopGhost
import Derived.Deep.DeepMust
import Derived.Laws.IdiomStrings
import Derived.Laws.Cover4
import Derived.Laws.BytesString
import Derived.Shelf.Strings.FieldsFuncAny
import Derived.Lib.FieldsP
import Derived.OwnWalk
import Derived.Laws.MakeOwn
import Derived.Laws.AppendOwnNone
import Derived.Laws.OwnMore
import Derived.Laws.CopyOwn
import Derived.Deep.DeepCutAuto
import Derived.Outline
namespace Go.Proofs.YtmecbmgfacpecaaGreatDoor.Cron
open Go Go.RowKit Go.Proofs.YtmecbmgfacpecaaGreatDoor.Text Go.Proofs.YtmecbmgfacpecaaGreatDoor.Bits
set_option linter.unusedVariables false

/-- w2 is w but for new blocks and the cell of err -/
def ErrAt (w w' : World) (g : Nat) (v : Value) : Prop := ∃ w1, Below w.heap.size w w1 ∧ w' = w1.setCell ⟨g, 0, none⟩ v

def ClosureAnswer (w : World) (g : Nat) (r : Option Nat) (e : Ending) (w' : World) : Prop :=
  match r with
  | some b => e = .returned (.int .u64 b) ∧ ErrAt w w' g .nilIface
  | none => ∃ (n : Int) (t : TypeId) (x : Value), e = .returned (.int .u64 n) ∧ ErrAt w w' g (.iface t x)

set_option maxRecDepth 100000 in
theorem closure_any (m : Option Nat) (val : List UInt8 → Option Nat) (Inv : World → Prop) (hR : Reads m val Inv) (lo hi : Nat) (s : ByteArray) (hs : s.size ≤ 4294967296) (h1 : lo ≤ hi) (h2 : hi ≤ 62) (g : Nat) (w : World) (hI : Inv w)
    (hg : g < w.heap.size) (hc : w.cell? ⟨g, 0, none⟩ = some .nilIface) (hf : w.frozen? ⟨g, 0, none⟩ = false) :
    Calls Tryz.prog 104 #[.string s, .agg #[.int .u64 lo, .int .u64 hi, .map m], .pointer (some ⟨g, 0, none⟩)] w (ClosureAnswer w g (fieldS val lo hi s.data.toList)) := by
  have hB0 : ∀ o, Below w.heap.size w (w.alloc o) := fun o => (Below.refl _ _).alloc (Nat.le_refl _) o
  have HC := Lib.hid (fun o => getFieldA m val Inv hR lo hi s hs h1 h2 (w.alloc o) (hR.keeps hI (hB0 o)))
  generalize fieldS val lo hi s.data.toList = r at *
  go_enter Tryz.func104, Tryz.ntmps104
  go_wp2_with fail
  refine (HC.out _).mono ?_
  cases r with
  | some b =>
    rintro e w2 ⟨rfl, hb2⟩
    have hB : Below w.heap.size w w2 := ((Below.refl _ _).alloc (Nat.le_refl _) _).trans (hb2.mono (by simp))
    have hc2 := (hB.cell (p := ⟨g, 0, none⟩) hg).trans hc
    have hf2 := (hB.frozen (p := ⟨g, 0, none⟩) hg).trans hf
    go_wp2_with fail
    go_ret
    exact ⟨rfl, w2, hB, rfl⟩
  | none =>
    rintro e w2 ⟨⟨n, t, x, rfl⟩, hb2⟩
    have hB : Below w.heap.size w w2 := ((Below.refl _ _).alloc (Nat.le_refl _) _).trans (hb2.mono (by simp))
    have hc2 := (hB.cell (p := ⟨g, 0, none⟩) hg).trans hc
    have hf2 := (hB.frozen (p := ⟨g, 0, none⟩) hg).trans hf
    go_wp2_with fail
    go_ret
    exact ⟨n, t, x, rfl, w2, hB, rfl⟩

end Go.Proofs.YtmecbmgfacpecaaGreatDoor.Cron

namespace Go.Proofs.YtmecbmgfacpecaaGreatDoor.Cron
open Go Go.RowKit Go.Proofs.YtmecbmgfacpecaaGreatDoor.Text Go.Proofs.YtmecbmgfacpecaaGreatDoor.Bits Go.Proofs.YtmecbmgfacpecaaGreatDoorW.PrintWords Go.Proofs.YtmecbmgfacpecaaGreatDoorW.PrintLast Go.Proofs.YtmecbmgfacpecaaGreatDoor.Pr
set_option linter.unusedVariables false

theorem wrap_i64_nat {n : Nat} (h : n < 9223372036854775808) : IntKind.i64.wrap (n : Int) = (n : Int) := by
  rw [IntKind.wrap_i64]
  omega

theorem and_i64 {a b : Nat} (ha : a < 9223372036854775808) (hb : b < 9223372036854775808) : bits .and .i64 (a : Int) (b : Int) = ((a &&& b : Nat) : Int) := by
  have ha' : a % 2 ^ 64 = a := Nat.mod_eq_of_lt (by omega)
  have hb' : b % 2 ^ 64 = b := Nat.mod_eq_of_lt (by omega)
  have e : IntKind.i64.bits = 64 := rfl
  unfold bits
  rw [e]
  show IntKind.i64.wrap ((BitVec.ofInt 64 (a : Int) &&& BitVec.ofInt 64 (b : Int)).toNat : Int) = _
  rw [BitVec.ofInt_natCast, BitVec.ofInt_natCast, BitVec.toNat_and, BitVec.toNat_ofNat, BitVec.toNat_ofNat, ha', hb']
  exact wrap_i64_nat (Nat.lt_of_le_of_lt Nat.and_le_left ha)

theorem or_i64 {a b : Nat} (ha : a < 4611686018427387904) (hb : b < 4611686018427387904) : bits .or .i64 (a : Int) (b : Int) = ((a ||| b : Nat) : Int) := by
  have ha' : a % 2 ^ 64 = a := Nat.mod_eq_of_lt (by omega)
  have hb' : b % 2 ^ 64 = b := Nat.mod_eq_of_lt (by omega)
  have e : IntKind.i64.bits = 64 := rfl
  unfold bits
  rw [e]
  show IntKind.i64.wrap ((BitVec.ofInt 64 (a : Int) ||| BitVec.ofInt 64 (b : Int)).toNat : Int) = _
  rw [BitVec.ofInt_natCast, BitVec.ofInt_natCast, BitVec.toNat_or, BitVec.toNat_ofNat, BitVec.toNat_ofNat, ha', hb']
  exact wrap_i64_nat (Nat.lt_of_lt_of_le (Nat.or_lt_two_pow (n := 62) ha hb) (by decide))

/-- the options' places of the six fields, and the texts of fields that are left out -/
def placesL : List Nat := [1, 4, 8, 16, 32, 64]
def defaultsL : List ByteArray := [⟨#[48]⟩, ⟨#[48]⟩, ⟨#[48]⟩, ⟨#[42]⟩, ⟨#[42]⟩, ⟨#[42]⟩]

/-- the options with the places of the optional fields -/
def optS (o : Nat) : Nat := if 0 < o &&& 2 then o ||| 1 else o
def optD (o : Nat) : Nat := if 0 < o &&& 128 then o ||| 64 else o
def optAll (o : Nat) : Nat := optD (optS o)
def nOpt (o : Nat) : Nat := (if 0 < o &&& 2 then 1 else 0) + (if 0 < optS o &&& 128 then 1 else 0)

/-- how many of some places are taken -/
def takenN (o : Nat) (ps : List Nat) : Nat := (ps.filter fun p => decide (0 < o &&& p)).length

/-- the fields in their places: the next one where a place is taken, else the default -/
def fillL (o : Nat) : List Nat → List ByteArray → List ByteArray → List ByteArray
  | p :: ps, d :: ds, fs => if 0 < o &&& p then (match fs with | f :: fs => f :: fillL o ps ds fs | [] => d :: fillL o ps ds []) else d :: fillL o ps ds fs
  | _, _, _ => []

/-- what normalizeFields makes of some fields -/
def normF (fs : List ByteArray) (o : Nat) : Option (List ByteArray) :=
  if 1 < nOpt o then none
  else if fs.length < takenN (optAll o) placesL - nOpt o ∨ takenN (optAll o) placesL < fs.length then none
  else some (fillL (optAll o) placesL defaultsL
    (if 0 < nOpt o ∧ fs.length = takenN (optAll o) placesL - nOpt o then (if 0 < optAll o &&& 128 then fs ++ [⟨#[42]⟩] else ⟨#[48]⟩ :: fs) else fs))

structure Ints (w : World) (g n cap : Nat) (l : List Nat) : Prop where
  len : n = l.length
  lt : g < w.heap.size
  at_ : ∀ (i : Nat) x, l[i]? = some x → w.cell? ⟨g, i, none⟩ = some (.int .i64 (x : Nat))

theorem Ints.below {w w' : World} {g n cap : Nat} {l : List Nat} (h : Ints w g n cap l) (hb : Below w.heap.size w w') : Ints w' g n cap l :=
  ⟨h.len, Nat.lt_of_lt_of_le h.lt hb.size, fun i x hx => (hb.cell (p := ⟨g, i, none⟩) h.lt).trans (h.at_ i x hx)⟩

theorem defaults_any (w : World) : Calls Tryz.prog 149 #[] w fun e w' => ∃ g c, e = .returned (.slice (some ⟨g, 0, none⟩) 6 c) ∧ w.heap.size ≤ g ∧ Texts w' g 6 c defaultsL ∧ Below w.heap.size w w' := by
  refine (cron_defaults.calls _ w rfl).mono ?_
  rintro e w' ⟨v, rfl, hR, hb⟩
  obtain ⟨g, n, cap, rfl, hg, ht⟩ := texts_of_R hR (by simp)
  have hn : n = 6 := ht.len
  subst hn
  exact ⟨g, cap, rfl, hg, ht, hb⟩

theorem places_any (w : World) : Calls Tryz.prog 148 #[] w fun e w' => ∃ g c, e = .returned (.slice (some ⟨g, 0, none⟩) 6 c) ∧ w.heap.size ≤ g ∧ Ints w' g 6 c placesL ∧ Below w.heap.size w w' := by
  refine (cron_places.calls _ w rfl).mono ?_
  rintro e w' ⟨v, rfl, hR, hb⟩
  have ho := Kd.own_of_R hR
  obtain ⟨_, h1 | ⟨g, cap, cur, rfl, hg, hc, hn, hm, hs, ht⟩⟩ := ho
  · exact absurd (List.length_eq_zero_iff.1 h1.2) (by simp)
  · refine ⟨g, cap, rfl, hg, ⟨rfl, (Array.getElem?_eq_some_iff.1 hc).1, fun i x hx => ?_⟩, hb⟩
    have hi : i < 6 := (List.getElem?_eq_some_iff.1 hx).1
    have := (Kd.R_cell (0 : Int) hR (i : Int) (by omega) (by simp; omega)).1
    rw [Int.toNat_natCast] at this
    rw [this]
    match i, hi, hx with
    | 0, _, hx => cases hx; rfl
    | 1, _, hx => cases hx; rfl
    | 2, _, hx => cases hx; rfl
    | 3, _, hx => cases hx; rfl
    | 4, _, hx => cases hx; rfl
    | 5, _, hx => cases hx; rfl

end Go.Proofs.YtmecbmgfacpecaaGreatDoor.Cron

namespace Go.Proofs.YtmecbmgfacpecaaGreatDoor.Cron
open Go Go.RowKit
set_option linter.unusedVariables false

theorem takenN_cons (q p : Nat) (ps : List Nat) : takenN q (p :: ps) = (if 0 < q &&& p then 1 else 0) + takenN q ps := by
  unfold takenN
  by_cases h : 0 < q &&& p
  · rw [List.filter_cons_of_pos (by simpa using h), if_pos h, List.length_cons, Nat.add_comm]
  · rw [List.filter_cons_of_neg (by simpa using h), if_neg h, Nat.zero_add]

theorem fill_length (q : Nat) : ∀ (ps : List Nat) (ds fs : List ByteArray), ps.length = ds.length → (fillL q ps ds fs).length = ps.length
  | [], [], _, _ => rfl
  | p :: ps, d :: ds, fs, h => by
    have h' : ps.length = ds.length := by simpa using h
    unfold fillL
    by_cases hp : 0 < q &&& p
    · rw [if_pos hp]
      cases fs with
      | nil => simp [fill_length q ps ds [] h']
      | cons f fs => simp [fill_length q ps ds fs h']
    · rw [if_neg hp]
      simp [fill_length q ps ds fs h']

/-- what stands in each place -/
theorem fill_at (q : Nat) : ∀ (ps : List Nat) (ds fs : List ByteArray) (i : Nat) (h : i < ps.length), ps.length = ds.length → takenN q ps ≤ fs.length →
    (fillL q ps ds fs)[i]? = if 0 < q &&& ps[i] then fs[takenN q (ps.take i)]? else ds[i]?
  | p :: ps, d :: ds, fs, i, h, hl, ht => by
    have hl' : ps.length = ds.length := by simpa using hl
    rw [takenN_cons] at ht
    unfold fillL
    by_cases hp : 0 < q &&& p
    · rw [if_pos hp] at ht ⊢
      cases fs with
      | nil => simp at ht
      | cons f fs =>
        cases i with
        | zero => simp [hp, takenN]
        | succ i =>
          have hi : i < ps.length := by simpa using h
          have ih := fill_at q ps ds fs i hi hl' (by simp at ht; omega)
          simp only [List.getElem?_cons_succ, List.getElem_cons_succ, List.take_succ_cons, takenN_cons, if_pos hp]
          rw [ih, Nat.add_comm 1, List.getElem?_cons_succ]
    · rw [if_neg hp] at ht ⊢
      cases i with
      | zero => simp [hp]
      | succ i =>
        have hi : i < ps.length := by simpa using h
        have ih := fill_at q ps ds fs i hi hl' (by omega)
        simp only [List.getElem?_cons_succ, List.getElem_cons_succ, List.take_succ_cons, takenN_cons, if_neg hp, Nat.zero_add]
        exact ih

/-- the row behind i rounds -/
def fillRow (F ds : List ByteArray) (i : Nat) : List ByteArray := F.take i ++ ds.drop i

theorem fillRow_same {F ds : List ByteArray} {i : Nat} {x : ByteArray} (hF : F[i]? = some x) (hd : ds[i]? = some x) : fillRow F ds (i + 1) = fillRow F ds i := by
  unfold fillRow
  obtain ⟨h1, h2⟩ := List.getElem?_eq_some_iff.1 hd
  rw [List.take_add_one, hF, List.drop_eq_getElem_cons h1, h2]
  simp

theorem fillRow_set {F ds : List ByteArray} {i : Nat} {x : ByteArray} (hF : F[i]? = some x) (hd : i < ds.length) : (fillRow F ds i).set i x = fillRow F ds (i + 1) := by
  unfold fillRow
  have hl : i < F.length := (List.getElem?_eq_some_iff.1 hF).1
  rw [List.take_add_one, hF, List.drop_eq_getElem_cons hd]
  have ht : (F.take i).length = i := by rw [List.length_take]; omega
  rw [List.set_append_right _ _ (by omega), ht, Nat.sub_self, List.set_cons_zero, Option.toList_some, List.append_assoc, List.singleton_append]

theorem fillRow_zero (F ds : List ByteArray) : fillRow F ds 0 = ds := by simp [fillRow]
theorem fillRow_end {F ds : List ByteArray} {i : Nat} (h1 : F.length ≤ i) (h2 : ds.length ≤ i) : fillRow F ds i = F := by
  unfold fillRow
  rw [List.take_of_length_le h1, List.drop_eq_nil_of_le h2, List.append_nil]

end Go.Proofs.YtmecbmgfacpecaaGreatDoor.Cron

namespace Go.Proofs.YtmecbmgfacpecaaGreatDoor.Cron
open Go Go.RowKit Go.Lib
set_option linter.unusedVariables false

/-- a rune in lower case, as bytes -/
def lowRune (r : Nat) : List UInt8 :=
  if 65 ≤ r ∧ r ≤ 90 then [UInt8.ofNat (r + 32)] else if r = 304 then [105] else if r = 8490 then [107] else (Utf8.encode (r : Int)).data.toList

/-- the runes from a place on -/
def lowGo (s : ByteArray) : Nat → Nat → List UInt8
  | 0, _ => []
  | f + 1, pos => if pos < s.size then lowRune (Utf8.decode s pos).1 ++ lowGo s f (pos + (Utf8.decode s pos).2) else []

def lowS (s : ByteArray) : List UInt8 := lowGo s s.size 0

theorem lowGo_end (s : ByteArray) (f pos : Nat) (h : ¬ pos < s.size) : lowGo s f pos = [] := by
  cases f with
  | zero => rfl
  | succ f => rw [lowGo, if_neg h]

theorem info_byte : (Tryz.prog.info? 5).map (fun i => (i.zero, i.size, i.bytes)) = some (some (.int .u8 0), 1, 1) := by kernel_rfl

def cells8 (l : List UInt8) : List Value := l.map fun b => Value.int .u8 b.toNat

theorem cells8_str (s : ByteArray) : strCells s = cells8 s.data.toList := rfl
theorem cells8_append (a b : List UInt8) : cells8 (a ++ b) = cells8 a ++ cells8 b := by simp [cells8]

theorem one_new (w : World) (x : Value) (t : TypeId) : ∀ j u, [x][j]? = some u → (w.alloc (.cells #[x] t)).cell? ((⟨w.heap.size, 0, none⟩ : Addr).add j) = some u := by
  intro j u hj
  match j, hj with
  | 0, hj => simp at hj; subst hj; simp [Addr.add]
  | (j + 1), hj => simp at hj

theorem run_rune_string (w : World) (r : Nat) : (convert 21 9 (.int .i32 (r : Int))).run Tryz.prog w = .ok (.string (Utf8.encode (r : Int))) w := by
  simp [convert, run_underlying Tryz.underlying21, run_underlying Tryz.underlying9, Conv.intToString]

theorem conv_own {w : World} {B : Nat} {v : Value} {l : List UInt8} (h : w.ownsRow B 5 1 v l.length (cells8 l)) : (convert 86 9 v).run Tryz.prog w = .ok (.string ⟨l.toArray⟩) w := by
  rcases h.2 with ⟨rfl, h0⟩ | ⟨g, cap, cur, rfl, hb, hg, hle, hcap, hsz, ht⟩
  · have : l = [] := List.length_eq_zero_iff.1 h0
    subst this
    rw [run_convert_bytes_string w _ _ _ none 0 0 Tryz.underlying86 Tryz.underlying5 Tryz.underlying9]
    rfl
  · exact run_convert_bytes_back w _ _ _ ⟨g, 0, none⟩ cap l Tryz.underlying86 Tryz.underlying5 Tryz.underlying9 (fun j hj => h.cells (g := g) rfl j _ (by simp [cells8, hj]))

theorem low_step {w W w1 : World} {v : Value} {n : Nat} {xs : List Value} {s : ByteArray} {p : Nat} {e : TypeId} (o : Obj) (hb : Below w.heap.size w W) (hit : W.heap[w.heap.size]? = some (.stringIter s p)) (hown : W.ownsRow w.heap.size e 1 v n xs)
    (hgrow : (W.alloc o).grownBy w1 v.ownBlock) : w1.heap[w.heap.size]? = some (.stringIter s p) ∧ Below w.heap.size w w1 := by
  have hlt : w.heap.size < W.heap.size := (Array.getElem?_eq_some_iff.1 hit).1
  refine ⟨?_, ?_⟩
  · rw [hgrow.block w.heap.size (by simp; omega) (own_ne_iter hown hit), heap_alloc_old W o hlt]
    exact hit
  · exact (hb.alloc hb.size o).grown hgrow (by simp; omega) (fun k hk => (hown.lt k hk).1)

theorem low_step0 {w W w1 : World} {v : Value} {n : Nat} {xs : List Value} {s : ByteArray} {p : Nat} {e : TypeId} (hb : Below w.heap.size w W) (hit : W.heap[w.heap.size]? = some (.stringIter s p)) (hown : W.ownsRow w.heap.size e 1 v n xs)
    (hgrow : W.grownBy w1 v.ownBlock) : w1.heap[w.heap.size]? = some (.stringIter s p) ∧ Below w.heap.size w w1 := by
  have hlt : w.heap.size < W.heap.size := (Array.getElem?_eq_some_iff.1 hit).1
  refine ⟨?_, ?_⟩
  · rw [hgrow.block w.heap.size hlt (own_ne_iter hown hit)]
    exact hit
  · exact hb.grown hgrow (by omega) (fun k hk => (hown.lt k hk).1)

set_option maxRecDepth 100000 in
set_option maxHeartbeats 4000000 in
theorem zzLower_any (s : ByteArray) (hs : s.size ≤ 4294967296) (w : World) :
    Calls Tryz.prog 206 #[.string s] w fun e w' => e = .returned (.string ⟨(lowS s).toArray⟩) ∧ Below w.heap.size w w' := by
  obtain ⟨i0, hi, hz0, hz1, hz2⟩ := info_parts info_byte
  go_enter Tryz.func206, Tryz.ntmps206
  go_wp2
  go_loopg [3] s.size (fun gf s3 wx => ∃ (pos : Nat) (acc : List UInt8), wx.ownsRow w.heap.size 5 1 s3 acc.length (cells8 acc) ∧ wx.heap[w.heap.size]? = some (.stringIter s pos) ∧ Below w.heap.size w wx ∧
      Hid (acc ++ lowGo s gf pos = lowS s) ∧ s.size ≤ pos + gf ∧ pos ≤ s.size ∧ acc.length ≤ 4 * pos)
  case atStart =>
    exact ⟨0, [], World.ownsRow_nil _ _ _ _, World.iter_heap w s 0, (Below.refl _ _).alloc (Nat.le_refl _) _, Lib.hid rfl, by omega, Nat.zero_le _, by simp⟩
  case round =>
    obtain ⟨pos, acc, hown, hit, hbw, HG, hfu, hps, hal⟩ := hrel
    by_cases hlt : pos < s.size
    · obtain ⟨g', rfl⟩ : ∃ g', gk = g' + 1 := ⟨gk - 1, by omega⟩
      have hnx : ∀ ty, (Instr.next (.pointer (some ⟨w.heap.size, 0, none⟩)) true ty).run Tryz.prog wr = _ := fun ty => Lib.run_next_any_at wr w.heap.size s pos ty hit hlt
      have hwd := Lib.width_pos s pos
      have hwn : pos + (Utf8.decode s pos).2 ≤ s.size := by
        have := Lib.decodeN_le_n' (s.size - pos) (s.get! pos).toNat (s.get! (pos + 1)).toNat (s.get! (pos + 2)).toNat (s.get! (pos + 3)).toNat (by omega)
        rw [← Lib.decode_at] at this
        omega
      have hrl := Lib.rune_le s pos
      have hG := HG.out
      rw [lowGo, if_pos hlt] at hG
      generalize (Utf8.decode s pos).1 = R at *
      generalize (Utf8.decode s pos).2 = K at *
      have hit2 := Lib.iterAt_heap wr w.heap.size s pos (pos + K) hit
      have hbw2 := Lib.below_iterAt hbw (k := w.heap.size) (Nat.le_refl _) s (pos + K)
      have hown2 := own_iterAt hown hit (pos + K)
      obtain ⟨W, hWd⟩ : ∃ W, wr.iterAt w.heap.size s (pos + K) = W := ⟨_, rfl⟩
      rw [hWd] at hnx hit2 hbw2 hown2
      have HG2 := Lib.hid hG
      clear hown hit hbw HG hG
      have hne := own_ne_iter hown2 hit2
      have hz : w.heap.size < W.heap.size := (Array.getElem?_eq_some_iff.1 hit2).1
      by_cases c1 : 65 ≤ R ∧ R ≤ 90
      · obtain ⟨c1a, c1b⟩ := c1
        have hc : lowRune R = [UInt8.ofNat (R + 32)] := by unfold lowRune; rw [if_pos ⟨c1a, c1b⟩]
        rw [hc] at HG2
        go_wp2_with (at_builtin; refine wpList_append_own _ rfl _ _ 86 rfl w.heap.size 5 i0 (.int .u8 0) 1 1 Tryz.underlying86 hi hz0 hz1 hz2 rfl (by decide) _ _ _ rfl (hown2.alloc _) ⟨W.heap.size, 0, none⟩ 1 1 [_] rfl rfl (one_new W _ _) (by intro u hu; simp at hu; subst hu; rfl) (by unfold maxLen; omega) (by omega) (by simp; omega) ?_; intro v' w1 hown' hgrow _)
        obtain ⟨hit3, hbw3⟩ := low_step _ hbw2 hit2 hown2 hgrow
        have hown3 : w1.ownsRow w.heap.size 5 1 v' (acc ++ [UInt8.ofNat (R + 32)]).length (cells8 (acc ++ [UInt8.ofNat (R + 32)])) := by
          rw [List.length_append, cells8_append]
          have hv : (R : Int) - 65 + 97 = ((UInt8.ofNat (R + 32)).toNat : Int) := by
            rw [UInt8.toNat_ofNat']
            omega
          rw [hv] at hown'
          exact hown'
        clear hown' hgrow hown2 hit2 hbw2 hne
        go_roundg g'
        case measure => omega
        case rel => exact ⟨pos + K, acc ++ [UInt8.ofNat (R + 32)], hown3, hit3, hbw3, Lib.hid (by rw [List.append_assoc]; exact HG2.out), by omega, hwn, by simp; omega⟩
      · have hn1 : ¬ ((65 : Int) ≤ R ∧ (R : Int) ≤ 90) := by omega
        have hR1 : (65 : Int) ≤ R → 90 < (R : Int) := by omega
        by_cases c2 : R = 304
        · subst c2
          have hc : lowRune 304 = [105] := by unfold lowRune; rw [if_neg (by omega), if_pos rfl]
          rw [hc] at HG2
          go_wp2_with (at_builtin; refine wpList_append_own _ rfl _ _ 86 rfl w.heap.size 5 i0 (.int .u8 0) 1 1 Tryz.underlying86 hi hz0 hz1 hz2 rfl (by decide) _ _ _ rfl (hown2.alloc _) ⟨W.heap.size, 0, none⟩ 1 1 [_] rfl rfl (one_new W _ _) (by intro u hu; simp at hu; subst hu; rfl) (by unfold maxLen; omega) (by omega) (by simp; omega) ?_; intro v' w1 hown' hgrow _)
          obtain ⟨hit3, hbw3⟩ := low_step _ hbw2 hit2 hown2 hgrow
          have hown3 : w1.ownsRow w.heap.size 5 1 v' (acc ++ [105]).length (cells8 (acc ++ [105])) := by
            rw [List.length_append, cells8_append]
            exact hown'
          clear hown' hgrow hown2 hit2 hbw2 hne
          go_roundg g'
          case measure => omega
          case rel => exact ⟨pos + K, acc ++ [105], hown3, hit3, hbw3, Lib.hid (by rw [List.append_assoc]; exact HG2.out), by omega, hwn, by simp; omega⟩
        · by_cases c3 : R = 8490
          · subst c3
            have hc : lowRune 8490 = [107] := by unfold lowRune; rw [if_neg (by omega), if_neg (by omega), if_pos rfl]
            rw [hc] at HG2
            go_wp2_with (at_builtin; refine wpList_append_own _ rfl _ _ 86 rfl w.heap.size 5 i0 (.int .u8 0) 1 1 Tryz.underlying86 hi hz0 hz1 hz2 rfl (by decide) _ _ _ rfl (hown2.alloc _) ⟨W.heap.size, 0, none⟩ 1 1 [_] rfl rfl (one_new W _ _) (by intro u hu; simp at hu; subst hu; rfl) (by unfold maxLen; omega) (by omega) (by simp; omega) ?_; intro v' w1 hown' hgrow _)
            obtain ⟨hit3, hbw3⟩ := low_step _ hbw2 hit2 hown2 hgrow
            have hown3 : w1.ownsRow w.heap.size 5 1 v' (acc ++ [107]).length (cells8 (acc ++ [107])) := by
              rw [List.length_append, cells8_append]
              exact hown'
            clear hown' hgrow hown2 hit2 hbw2 hne
            go_roundg g'
            case measure => omega
            case rel => exact ⟨pos + K, acc ++ [107], hown3, hit3, hbw3, Lib.hid (by rw [List.append_assoc]; exact HG2.out), by omega, hwn, by simp; omega⟩
          · have hc : lowRune R = (Utf8.encode (R : Int)).data.toList := by unfold lowRune; rw [if_neg c1, if_neg c2, if_neg c3]
            rw [hc] at HG2
            have hel := encode_size_le (R : Int)
            have hcv := fun w' : World => run_rune_string w' R
            generalize Utf8.encode (R : Int) = E at *
            have hem : E.data.toList.length = E.size := Array.length_toList
            have hc2 : ((R : Int) == 304) = false := by simpa using (by omega : ¬ (R : Int) = 304)
            have hc3 : ((R : Int) == 8490) = false := by simpa using (by omega : ¬ (R : Int) = 8490)
            by_cases c4 : 65 ≤ R
            · have c5 : ¬ R ≤ 90 := by omega
              go_wp2_with (at_builtin; refine wpList_append_own_string _ rfl _ _ 86 9 rfl w.heap.size 5 i0 Tryz.underlying86 Tryz.underlying9 hi hz0 hz1 hz2 _ _ _ rfl hown2 _ rfl (by unfold maxLen; omega) (by omega) (by omega) ?_; intro v' w1 hown' hgrow _)
              obtain ⟨hit3, hbw3⟩ := low_step0 hbw2 hit2 hown2 hgrow
              have hown3 : w1.ownsRow w.heap.size 5 1 v' (acc ++ E.data.toList).length (cells8 (acc ++ E.data.toList)) := by
                rw [List.length_append, cells8_append, ← cells8_str, hem]
                exact hown'
              clear hown' hgrow hown2 hit2 hbw2 hne
              go_roundg g'
              case measure => omega
              case rel => exact ⟨pos + K, acc ++ E.data.toList, hown3, hit3, hbw3, Lib.hid (by rw [List.append_assoc]; exact HG2.out), by omega, hwn, by rw [List.length_append]; omega⟩
            · go_wp2_with (at_builtin; refine wpList_append_own_string _ rfl _ _ 86 9 rfl w.heap.size 5 i0 Tryz.underlying86 Tryz.underlying9 hi hz0 hz1 hz2 _ _ _ rfl hown2 _ rfl (by unfold maxLen; omega) (by omega) (by omega) ?_; intro v' w1 hown' hgrow _)
              obtain ⟨hit3, hbw3⟩ := low_step0 hbw2 hit2 hown2 hgrow
              have hown3 : w1.ownsRow w.heap.size 5 1 v' (acc ++ E.data.toList).length (cells8 (acc ++ E.data.toList)) := by
                rw [List.length_append, cells8_append, ← cells8_str, hem]
                exact hown'
              clear hown' hgrow hown2 hit2 hbw2 hne
              go_roundg g'
              case measure => omega
              case rel => exact ⟨pos + K, acc ++ E.data.toList, hown3, hit3, hbw3, Lib.hid (by rw [List.append_assoc]; exact HG2.out), by omega, hwn, by rw [List.length_append]; omega⟩
    · have hpe : pos = s.size := by omega
      have hnx := fun ty => run_next_end_at (P := Tryz.prog) wr w.heap.size s pos ty hit hlt
      have hacc : acc = lowS s := by
        have := HG.out
        rw [lowGo_end _ _ _ hlt, List.append_nil] at this
        exact this
      have hcv := conv_own hown
      rw [hacc] at hcv
      clear HG hown
      go_wp2_with fail
      go_ret
      exact ⟨rfl, hbw⟩

end Go.Proofs.YtmecbmgfacpecaaGreatDoor.Cron

namespace Go.Proofs.YtmecbmgfacpecaaGreatDoor.Cron
open Go Go.RowKit Go.Lib Go.Proofs.YtmecbmgfacpecaaGreatDoorW.PrintWords Go.Proofs.YtmecbmgfacpecaaGreatDoorW.PrintLast Go.Proofs.YtmecbmgfacpecaaGreatDoor.Pr
set_option linter.unusedVariables false

/-- the characters that zzSpace takes for white space -/
def spaceZ (r : Nat) : Bool :=
  decide (r = 9 ∨ r = 10 ∨ r = 11 ∨ r = 12 ∨ r = 13 ∨ r = 32 ∨ r = 133 ∨ r = 160 ∨ r = 5760 ∨ r = 8232 ∨ r = 8233 ∨ r = 8239 ∨ r = 8287 ∨ r = 12288 ∨ (8192 ≤ r ∧ r ≤ 8202))

theorem space_f (r : Nat) : cron_zzSpace.f (r : Int) = some (spaceZ r) := by
  unfold cron_zzSpace.f
  by_cases h : r = 9 ∨ r = 10 ∨ r = 11 ∨ r = 12 ∨ r = 13 ∨ r = 32 ∨ r = 133 ∨ r = 160 ∨ r = 5760 ∨ r = 8232 ∨ r = 8233 ∨ r = 8239 ∨ r = 8287 ∨ r = 12288
  · have e : spaceZ r = true := by
      unfold spaceZ
      apply decide_eq_true
      omega
    rw [e]
    rcases h with rfl | rfl | rfl | rfl | rfl | rfl | rfl | rfl | rfl | rfl | rfl | rfl | rfl | rfl <;> rfl
  · repeat rw [if_neg (by omega)]
    by_cases h2 : 8192 ≤ r
    · rw [if_pos (by omega)]
      congr 1
      unfold spaceZ
      rw [Bool.eq_iff_iff]
      simp only [decide_eq_true_eq]
      omega
    · rw [if_neg (by omega)]
      congr 1
      unfold spaceZ
      symm
      apply decide_eq_false
      omega

theorem space_any (r : Nat) (w : World) : Calls Tryz.prog 144 #[.int .i32 r] w fun e w' => e = .returned (.bool (spaceZ r)) ∧ ∃ n, w' = w.drewN n := by
  refine (cron_zzSpace.calls r (spaceZ r) w (space_f r)).mono fun e w' ⟨he, hw⟩ => ⟨he, hw.out⟩

/-- the parts of a text between white space -/
def fieldsZ (s : ByteArray) : List ByteArray := Lib.goFieldsP spaceZ s

theorem info_string : (Tryz.prog.info? 9).map (fun i => (i.zero, i.size, i.bytes)) = some (some (.string ⟨#[]⟩), 1, 16) := by kernel_rfl

def spanS (s : ByteArray) (x : Nat × Nat) : Value := .string (s.extract x.1 x.2)

set_option maxRecDepth 100000 in
set_option maxHeartbeats 4000000 in
theorem zzFields_any (s : ByteArray) (hs : s.size ≤ 4294967296) (w : World) :
    Calls Tryz.prog 102 #[.string s] w fun e w' => ∃ v, e = .returned v ∧ w'.ownsRow w.heap.size 9 1 v (fieldsZ s).length ((fieldsZ s).map Value.string) ∧ Below w.heap.size w w' := by
  have hGF : (fieldsZ s).map Value.string = (Lib.spansOfP spaceZ s).map (spanS s) := by
    unfold fieldsZ Lib.goFieldsP
    rw [List.map_map]
    rfl
  have hGL : (fieldsZ s).length = (Lib.spansOfP spaceZ s).length := by
    unfold fieldsZ Lib.goFieldsP
    rw [List.length_map]
  rw [hGF, hGL]
  clear hGF hGL
  obtain ⟨i0, hi, hz0, hz1, hz2⟩ := info_parts info_string
  go_enter Tryz.func102, Tryz.ntmps102
  go_wp2
  go_loopg [3, 4] s.size (fun gf s3 s4 wx => ∃ (pos : Nat) (st : Option Nat) (acc : List (Nat × Nat)) (z : Int), s4 = .int .i64 z ∧ (st = none → z < 0) ∧ (∀ a, st = some a → z = (a : Int)) ∧ -9223372036854775808 ≤ z ∧
      wx.ownsRow w.heap.size 9 1 s3 acc.length (acc.map (spanS s)) ∧ wx.heap[w.heap.size]? = some (.stringIter s pos) ∧ Below w.heap.size w wx ∧
      Hid (Lib.spansFromP spaceZ s gf pos st acc = Lib.spansFromP spaceZ s s.size 0 none []) ∧ s.size ≤ pos + gf ∧ pos ≤ s.size ∧ acc.length ≤ pos ∧ (∀ a, st = some a → a < pos))
  case atStart =>
    exact ⟨0, none, [], -1, rfl, fun _ => by omega, (fun a h => by cases h), by omega, World.ownsRow_nil _ _ _ _, World.iter_heap w s 0, (Below.refl _ _).alloc (Nat.le_refl _) _, Lib.hid rfl, by omega, Nat.zero_le _, Nat.le_refl _, (fun a h => by cases h)⟩
  case round =>
    obtain ⟨pos, st, acc, z, rfl, hzn, hzs, hzl, hown, hit, hbw, HG, hfu, hps, hal, hst⟩ := hrel
    by_cases hlt : pos < s.size
    · obtain ⟨g', rfl⟩ : ∃ g', gk = g' + 1 := ⟨gk - 1, by omega⟩
      have hnx : ∀ ty, (Instr.next (.pointer (some ⟨w.heap.size, 0, none⟩)) true ty).run Tryz.prog wr = _ := fun ty => Lib.run_next_any_at wr w.heap.size s pos ty hit hlt
      have hwd := Lib.width_pos s pos
      have hwn : pos + (Utf8.decode s pos).2 ≤ s.size := by
        have := Lib.decodeN_le_n' (s.size - pos) (s.get! pos).toNat (s.get! (pos + 1)).toNat (s.get! (pos + 2)).toNat (s.get! (pos + 3)).toNat (by omega)
        rw [← Lib.decode_at] at this
        omega
      have hrl := Lib.rune_le s pos
      have hG := HG.out
      simp only [Lib.spansFromP, hlt, if_true] at hG
      generalize (Utf8.decode s pos).1 = R at *
      generalize (Utf8.decode s pos).2 = K at *
      have hit2 := Lib.iterAt_heap wr w.heap.size s pos (pos + K) hit
      have hbw2 := Lib.below_iterAt hbw (k := w.heap.size) (Nat.le_refl _) s (pos + K)
      have hown2 := own_iterAt hown hit (pos + K)
      obtain ⟨W, hWd⟩ : ∃ W, wr.iterAt w.heap.size s (pos + K) = W := ⟨_, rfl⟩
      rw [hWd] at hnx hit2 hbw2 hown2
      have HS := Lib.hid (space_any R W)
      cases hsp : spaceZ R
      · rw [hsp] at hG HS
        simp only [Bool.false_eq_true, if_false] at hG
        have HG2 := Lib.hid hG
        clear hown hit hbw HG hG
        cases st with
        | none =>
          have hz0' : z < 0 := hzn rfl
          go_wp2_with (go_at_call 144; go_must (refine (HS.out).mono ?_); rintro e W' ⟨rfl, q, rfl⟩)
          go_roundg g'
          case measure => omega
          case rel => exact ⟨pos + K, some pos, acc, pos, rfl, (fun h => by cases h), fun a h => by cases h; rfl, by omega, own_drewN hown2 q, hit2, pw_below_drewN hbw2 q, HG2, by omega, hwn, by omega, fun a h => by cases h; omega⟩
        | some a =>
          have hza : z = (a : Int) := hzs a rfl
          subst hza
          go_wp2_with (go_at_call 144; go_must (refine (HS.out).mono ?_); rintro e W' ⟨rfl, q, rfl⟩)
          go_roundg g'
          case measure => omega
          case rel => exact ⟨pos + K, some a, acc, a, rfl, (fun h => by cases h), fun b h => by cases h; rfl, by omega, own_drewN hown2 q, hit2, pw_below_drewN hbw2 q, HG2, by omega, hwn, by omega, fun b h => by cases h; have := hst a rfl; omega⟩
      · rw [hsp] at hG HS
        simp only [if_true] at hG
        have HG2 := Lib.hid hG
        clear hown hit hbw HG hG
        cases st with
        | none =>
          have hz0' : z < 0 := hzn rfl
          go_wp2_with (go_at_call 144; go_must (refine (HS.out).mono ?_); rintro e W' ⟨rfl, q, rfl⟩)
          go_roundg g'
          case measure => omega
          case rel => exact ⟨pos + K, none, acc, z, rfl, fun _ => hz0', (fun a h => by cases h), hzl, own_drewN hown2 q, hit2, pw_below_drewN hbw2 q, HG2, by omega, hwn, by omega, (fun a h => by cases h)⟩
        | some a =>
          have hza : z = (a : Int) := hzs a rfl
          subst hza
          have hapos := hst a rfl
          have hz : w.heap.size < W.heap.size := (Array.getElem?_eq_some_iff.1 hit2).1
          go_wp2_with fail
          refine (HS.out).mono ?_
          rintro e W' ⟨rfl, q, rfl⟩
          have hown3 := own_drewN hown2 q
          have hbw3 := pw_below_drewN hbw2 q
          have hit3 : (W.drewN q).heap[w.heap.size]? = some (.stringIter s (pos + K)) := hit2
          have hz3 : w.heap.size < (W.drewN q).heap.size := hz
          clear hown2 hbw2 hit2 hz
          generalize W.drewN q = W3 at *
          go_wp2_with (at_builtin; refine wpList_append_own _ rfl _ _ 33 rfl w.heap.size 9 i0 (.string ⟨#[]⟩) 1 16 Tryz.underlying33 hi hz0 hz1 hz2 rfl (by decide) _ _ _ rfl (hown3.alloc _) ⟨W3.heap.size, 0, none⟩ 1 1 [_] rfl rfl (one_new W3 _ _) (by intro u hu; simp at hu; subst hu; rfl) (by unfold maxLen; omega) (by omega) (by simp; omega) ?_; intro v' w1 hown' hgrow _)
          obtain ⟨hit4, hbw4⟩ := low_step _ hbw3 hit3 hown3 hgrow
          have hown4 : w1.ownsRow w.heap.size 9 1 v' (acc ++ [(a, pos)]).length ((acc ++ [(a, pos)]).map (spanS s)) := by
            rw [List.length_append, List.map_append]
            exact hown'
          clear hown' hgrow hown3 hit3 hbw3
          go_roundg g'
          case measure => omega
          case rel => exact ⟨pos + K, none, acc ++ [(a, pos)], -1, rfl, fun _ => by omega, (fun a h => by cases h), by omega, hown4, hit4, hbw4, HG2, by omega, hwn, by simp; omega, (fun a h => by cases h)⟩
    · have hnx := fun ty => run_next_end_at (P := Tryz.prog) wr w.heap.size s pos ty hit hlt
      have hend : Lib.spansOfP spaceZ s = Lib.closeSpans s (acc, st) := by
        have := HG.out
        rw [Lib.spansFromP_end _ _ _ _ _ _ hlt] at this
        unfold Lib.spansOfP
        rw [← this]
      have hz3 : w.heap.size < wr.heap.size := (Array.getElem?_eq_some_iff.1 hit).1
      cases st with
      | none =>
        have hz0' : z < 0 := hzn rfl
        have hE : Lib.spansOfP spaceZ s = acc := hend
        have HE := Lib.hid hE
        clear HG hend hE
        go_wp2_with fail
        go_ret
        refine ⟨_, rfl, ?_, hbw⟩
        rw [HE.out]
        exact hown
      | some a =>
        have hza : z = (a : Int) := hzs a rfl
        subst hza
        have hapos := hst a rfl
        have hE : Lib.spansOfP spaceZ s = acc ++ [(a, s.size)] := hend
        have HE := Lib.hid hE
        clear HG hend hE
        go_wp2_with (at_builtin; refine wpList_append_own _ rfl _ _ 33 rfl w.heap.size 9 i0 (.string ⟨#[]⟩) 1 16 Tryz.underlying33 hi hz0 hz1 hz2 rfl (by decide) _ _ _ rfl (hown.alloc _) ⟨wr.heap.size, 0, none⟩ 1 1 [_] rfl rfl (one_new wr _ _) (by intro u hu; simp at hu; subst hu; rfl) (by unfold maxLen; omega) (by omega) (by simp; omega) ?_; intro v' w1 hown' hgrow _)
        obtain ⟨hit4, hbw4⟩ := low_step _ hbw hit hown hgrow
        go_ret
        refine ⟨_, rfl, ?_, hbw4⟩
        rw [HE.out, List.length_append, List.map_append]
        exact hown'

end Go.Proofs.YtmecbmgfacpecaaGreatDoor.Cron

namespace Go.Proofs.YtmecbmgfacpecaaGreatDoor.Cron
open Go Go.RowKit Go.Proofs.YtmecbmgfacpecaaGreatDoor.Text Go.Proofs.YtmecbmgfacpecaaGreatDoor.Bits
set_option linter.unusedVariables false

theorem optS_lt {o : Nat} (h : o < 512) : optS o < 512 := by
  unfold optS
  split
  · exact Nat.or_lt_two_pow (n := 9) h (by decide)
  · exact h
theorem optD_lt {o : Nat} (h : o < 512) : optD o < 512 := by
  unfold optD
  split
  · exact Nat.or_lt_two_pow (n := 9) h (by decide)
  · exact h

theorem taken_step (q : Nat) (i : Nat) (h : i < 6) : takenN q (placesL.take (i + 1)) = takenN q (placesL.take i) + (if 0 < q &&& placesL[i]'(by simpa [placesL] using h) then 1 else 0) := by
  have hl : i < placesL.length := by simpa [placesL] using h
  unfold takenN
  rw [List.take_add_one, List.getElem?_eq_getElem hl]
  simp only [Option.toList_some, List.filter_append, List.length_append]
  congr 1
  by_cases hp : 0 < q &&& placesL[i]
  · rw [List.filter_cons_of_pos (by simpa using hp), if_pos hp]; rfl
  · rw [List.filter_cons_of_neg (by simpa using hp), if_neg hp]; rfl

theorem taken_le (q : Nat) (ps : List Nat) : takenN q ps ≤ ps.length := List.length_filter_le _ _

set_option maxRecDepth 100000 in
theorem opt_bit_all : ∀ o : Fin 512, nOpt o.val = 1 → ¬ 0 < optAll o.val &&& 128 → 0 < optAll o.val &&& 2 := by decide +kernel
set_option maxRecDepth 100000 in
theorem opt_min_all : ∀ o : Fin 512, nOpt o.val ≤ takenN (optAll o.val) placesL := by decide +kernel

theorem opt_bit {o : Nat} (h : o < 512) : nOpt o = 1 → ¬ 0 < optAll o &&& 128 → 0 < optAll o &&& 2 := opt_bit_all ⟨o, h⟩
theorem opt_min {o : Nat} (h : o < 512) : nOpt o ≤ takenN (optAll o) placesL := opt_min_all ⟨o, h⟩

theorem places_lt (i : Nat) (h : i < placesL.length) : placesL[i] < 512 := by
  have : ∀ p ∈ placesL, p < 512 := by decide
  exact this _ (List.getElem_mem h)

theorem own_below {w w' : World} {base : Nat} {e : TypeId} {size n : Nat} {v : Value} {xs : List Value} (h : w.ownsRow base e size v n xs) (hb : Below w.heap.size w w') : w'.ownsRow base e size v n xs := by
  refine ⟨h.1, ?_⟩
  rcases h.2 with h0 | ⟨g, cap, cur, hv, hbg, hg, rest⟩
  · exact .inl h0
  · exact .inr ⟨g, cap, cur, hv, hbg, (hb.block g (Array.getElem?_eq_some_iff.1 hg).1).trans hg, rest⟩

theorem own_slice {w : World} {base : Nat} {e : TypeId} {v : Value} {n : Nat} {xs : List Value} (h : w.ownsRow base e 1 v n xs) : ∃ A c, v = .slice A n c := by
  rcases h.2 with ⟨rfl, h0⟩ | ⟨g, cap, cur, rfl, _⟩
  · exact ⟨none, 0, by rw [h0]⟩
  · exact ⟨_, cap, rfl⟩

theorem taken_take_le (q : Nat) (ps : List Nat) (i : Nat) : takenN q (ps.take i) ≤ takenN q ps :=
  List.Sublist.length_le (List.Sublist.filter _ (List.take_sublist i ps))

theorem Ints.put {w : World} {g n cap : Nat} {l : List Nat} (h : Ints w g n cap l) {k j : Nat} (hk : g ≠ k) (v : Value) : Ints (w.setCell ⟨k, j, none⟩ v) g n cap l :=
  ⟨h.len, by simpa using h.lt, fun i x hx => by
    have := h.at_ i x hx
    unfold World.cell? at this ⊢
    rw [heap_setCell_other w ⟨k, j, none⟩ g v hk]
    exact this⟩

theorem row_put {w : World} {g i : Nat} {L : List ByteArray} {T : TypeId} (x : ByteArray) (h : w.heap[g]? = some (.cells (L.map Value.string).toArray T (0, 0))) : (w.setCell ⟨g, i, none⟩ (.string x)).heap[g]? = some (.cells ((L.set i x).map Value.string).toArray T (0, 0)) := by
  rw [heap_setCell_same w g i _ _ _ h, List.map_set, List.setIfInBounds_toArray]

/-- an answer of normalizeFields -/
def NormAnswer (base ge : Nat) (w : World) (r : Option (List ByteArray)) (e : Ending) (w' : World) : Prop :=
  (match r with
    | some l => ∃ g c, e = .returned (.tuple #[.slice (some ⟨g, 0, none⟩) 6 c, .nilIface]) ∧ w.heap.size ≤ g ∧ Texts w' g 6 c l
    | none => ∃ t x, e = .returned (.tuple #[.slice none 0 0, .iface t x])) ∧ Below base w w' ∧ w'.heap[ge]? = w.heap[ge]?

set_option maxRecDepth 100000 in
set_option maxHeartbeats 4000000 in
theorem normal_any (o : Nat) (ho : o < 512) (fs : List ByteArray) (v : Value) (w : World) (base : Nat) (hown : w.ownsRow base 9 1 v fs.length (fs.map Value.string)) (hfs : fs.length ≤ 4294967296) (hbase : base ≤ w.heap.size) (ge : Nat) (hgeB : ge < w.heap.size) (hrow : v.ownBlock ≠ some ge) :
    Calls Tryz.prog 103 #[v, .int .i64 o] w (NormAnswer base ge w (normF fs o)) := by
  have hS := optS_lt ho
  obtain ⟨A, cv, rfl⟩ : ∃ A cv, v = .slice A fs.length cv := by
    rcases hown.2 with ⟨rfl, h0⟩ | ⟨g, cap, cur, rfl, _⟩
    · exact ⟨none, 0, by rw [h0]⟩
    · exact ⟨_, cap, rfl⟩
  have hand1 : bits .and .i64 (o : Int) 2 = ((o &&& 2 : Nat) : Int) := and_i64 (b := 2) (by omega) (by decide)
  have hor1 : bits .or .i64 (o : Int) 1 = ((o ||| 1 : Nat) : Int) := or_i64 (b := 1) (by omega) (by decide)
  have hand2 : bits .and .i64 (optS o : Int) 128 = ((optS o &&& 128 : Nat) : Int) := and_i64 (b := 128) (by omega) (by decide)
  have hor2 : bits .or .i64 (optS o : Int) 64 = ((optS o ||| 64 : Nat) : Int) := or_i64 (b := 64) (by omega) (by decide)
  go_enter Tryz.func103, Tryz.ntmps103
  go_upto_if 18 with fail
  go_cut [1, 6] (fun v1 v6 wc => v1 = .int .i64 (optS o : Nat) ∧ v6 = .int .i64 ((if 0 < o &&& 2 then 1 else 0 : Nat) : Int) ∧ w = wc)
  case first =>
    by_cases h : 0 < o &&& 2
    · have hs : optS o = o ||| 1 := by unfold optS; rw [if_pos h]
      have HS := Lib.hid hs
      have hp : (0 : Int) < ((o &&& 2 : Nat) : Int) := by omega
      clear hs hS hand2 hor2
      go_wp2_with fail
      go_meet
      exact ⟨by rw [HS.out], by rw [if_pos h]; rfl, rfl⟩
    · have hs : optS o = o := by unfold optS; rw [if_neg h]
      have HS := Lib.hid hs
      have hp : ¬ (0 : Int) < ((o &&& 2 : Nat) : Int) := by omega
      clear hs hS hand2 hor2
      go_wp2_with fail
      go_meet
      exact ⟨by rw [HS.out], by rw [if_neg h]; rfl, rfl⟩
  case rest =>
    obtain ⟨rfl, rfl, rfl⟩ := hcut
    clear hand1 hor1
    go_upto_if 25 with fail
    go_cut [1, 6] (fun v1 v6 wc => v1 = .int .i64 (optAll o : Nat) ∧ v6 = .int .i64 (nOpt o : Nat) ∧ w = wc)
    case first =>
      by_cases h : 0 < optS o &&& 128
      · have hs : optAll o = optS o ||| 64 := by unfold optAll optD; rw [if_pos h]
        have hn : nOpt o = (if 0 < o &&& 2 then 1 else 0) + 1 := by unfold nOpt; rw [if_pos h]
        have HS := Lib.hid hs
        have HN := Lib.hid hn
        have hp : (0 : Int) < ((optS o &&& 128 : Nat) : Int) := by omega
        have hq : (if 0 < o &&& 2 then 1 else 0) ≤ 1 := by split <;> omega
        clear hs hn hS
        generalize optS o = o1 at *
        generalize (if 0 < o &&& 2 then 1 else 0) = n1 at *
        go_wp2_with fail
        go_meet
        exact ⟨by rw [HS.out], by rw [HN.out]; rfl, rfl⟩
      · have hs : optAll o = optS o := by unfold optAll optD; rw [if_neg h]
        have hn : nOpt o = (if 0 < o &&& 2 then 1 else 0) := by unfold nOpt; rw [if_neg h]; rfl
        have HS := Lib.hid hs
        have HN := Lib.hid hn
        have hp : ¬ (0 : Int) < ((optS o &&& 128 : Nat) : Int) := by omega
        clear hs hn hS
        generalize optS o = o1 at *
        generalize (if 0 < o &&& 2 then 1 else 0) = n1 at *
        go_wp2_with fail
        go_meet
        exact ⟨by rw [HS.out], by rw [HN.out], rfl⟩
    case rest =>
      obtain ⟨rfl, rfl, rfl⟩ := hcut
      clear hand2 hor2
      by_cases hmany : 1 < nOpt o
      · have HX : Hid (normF fs o = none) := Lib.hid (by unfold normF; rw [if_pos hmany])
        go_wp2_with (go_at_call 96; refine (errorsNew_any _ _).mono ?_; rintro e w1 ⟨t, x, rfl, hb1⟩)
        go_ret2
        refine ⟨?_, hb1.mono hbase, hb1.block ge hgeB⟩
        rw [HX.out]
        exact ⟨t, x, rfl⟩
      · have hq := optD_lt hS
        have HN1 : Hid (nOpt o ≤ 1) := Lib.hid (by omega)
        have HNF : Hid (normF fs o = if fs.length < takenN (optAll o) placesL - nOpt o ∨ takenN (optAll o) placesL < fs.length then none
            else some (fillL (optAll o) placesL defaultsL (if 0 < nOpt o ∧ fs.length = takenN (optAll o) placesL - nOpt o then (if 0 < optAll o &&& 128 then fs ++ [⟨#[42]⟩] else ⟨#[48]⟩ :: fs) else fs))) := Lib.hid (by unfold normF; rw [if_neg hmany])
        have HBIT : Hid (nOpt o = 1 → ¬ 0 < optAll o &&& 128 → 0 < optAll o &&& 2) := Lib.hid (opt_bit ho)
        have HMIN : Hid (nOpt o ≤ takenN (optAll o) placesL) := Lib.hid (opt_min ho)
        change optAll o < 512 at hq
        generalize hR : normF fs o = R at *
        clear hR
        generalize optAll o = q at *
        generalize nOpt o = n1 at *
        clear hS ho
        go_wp2_with (go_at_call 148; go_must (refine (places_any _).mono ?_); rintro e w1 ⟨g1, c1, rfl, hg1, hp1, hb1⟩)
        go_loop [7, 35] (fun v7 v35 => ∃ i : Nat, v35 = .int .i64 i ∧ i ≤ 6 ∧ v7 = .int .i64 (takenN q (placesL.take i) : Nat)) (fun _ v35 => 6 - (intOf v35).toNat)
        case atStart => exact ⟨0, rfl, by omega, rfl⟩
        case round =>
          obtain ⟨i, rfl, hi, rfl⟩ := hrel
          have htl := taken_le q (placesL.take i)
          have htl2 : (placesL.take i).length ≤ 6 := by rw [List.length_take]; simp [placesL]; omega
          by_cases h6 : i < 6
          · have hl : i < placesL.length := by simpa [placesL] using h6
            have hc := hp1.at_ i _ (List.getElem?_eq_getElem hl)
            have hst := Lib.hid (taken_step q i h6)
            have hpl := places_lt i hl
            generalize placesL[i] = p at *
            have hand : bits .and .i64 (q : Int) (p : Int) = ((q &&& p : Nat) : Int) := and_i64 (by omega) (by omega)
            by_cases hpos : 0 < q &&& p
            · have hpi : (0 : Int) < ((q &&& p : Nat) : Int) := by omega
              have HT : Hid (takenN q (placesL.take (i + 1)) = takenN q (placesL.take i) + 1) := Lib.hid (by rw [hst.out, if_pos hpos])
              clear hst
              generalize takenN q (placesL.take i) = tn at *
              go_wp2_with fail
              go_round
              case rel => exact ⟨i + 1, by go_num, by omega, by rw [HT.out]; go_num⟩
              case measure => simp [intOf]; omega
            · have hpi : ¬ (0 : Int) < ((q &&& p : Nat) : Int) := by omega
              have HT : Hid (takenN q (placesL.take (i + 1)) = takenN q (placesL.take i)) := Lib.hid (by rw [hst.out, if_neg hpos]; rfl)
              clear hst
              generalize takenN q (placesL.take i) = tn at *
              go_wp2_with fail
              go_round
              case rel => exact ⟨i + 1, by go_num, by omega, by rw [HT.out]⟩
              case measure => simp [intOf]; omega
          · have hi6 : i = 6 := by omega
            subst hi6
            have htk : takenN q (placesL.take 6) = takenN q placesL := rfl
            rw [htk]
            clear htk htl htl2 h6
            have htm := taken_le q placesL
            have hpm : placesL.length = 6 := rfl
            generalize hmx : takenN q placesL = mx at *
            have HMX := Lib.hid hmx
            clear hmx
            have hnm := HMIN.out
            have hn1 := HN1.out
            by_cases hbad : fs.length < mx - n1 ∨ mx < fs.length
            · have HX : Hid (R = none) := Lib.hid (by rw [HNF.out, if_pos hbad])
              clear HNF HBIT
              go_wp2_with (go_at_call 96; refine (errorsNew_any _ _).mono ?_; rintro e w2 ⟨t, x, rfl, hb2⟩)
              all_goals
                go_ret2
                refine ⟨?_, (below_of_le hb1 hb2).mono hbase, (below_of_le hb1 hb2).block ge hgeB⟩
                rw [HX.out]
                exact ⟨t, x, rfl⟩
            · have HR : Hid (R = some (fillL q placesL defaultsL (if 0 < n1 ∧ fs.length = mx - n1 then (if 0 < q &&& 128 then fs ++ [⟨#[42]⟩] else ⟨#[48]⟩ :: fs) else fs))) := Lib.hid (by rw [HNF.out, if_neg hbad])
              have hge : mx - n1 ≤ fs.length := by omega
              have hle : fs.length ≤ mx := by omega
              clear HNF hbad hmany
              go_upto_region 23 with fail
              obtain ⟨wo, rfl⟩ : ∃ wo : World, wo = w1 := ⟨_, rfl⟩
              go_cut [72] (fun v72 wc => ∃ b : Bool, v72 = .bool b ∧ Hid (b = decide (0 < n1 ∧ fs.length = mx - n1)) ∧ wo = wc)
              case first =>
                by_cases hopt : 0 < n1 ∧ fs.length = mx - n1
                · have hD := Lib.hid (decide_eq_true hopt)
                  obtain ⟨ho1, ho2⟩ := hopt
                  have h1 : ((mx : Int) - n1 < mx) := by omega
                  have h2 : ((fs.length : Int) == (mx : Int) - n1) = true := by simp; omega
                  clear ho1 ho2
                  go_wp2_with fail
                  go_meet
                  exact ⟨_, rfl, Lib.hid hD.out.symm, rfl⟩
                · have hD := Lib.hid (decide_eq_false hopt)
                  by_cases h0 : n1 = 0
                  · have h1 : ¬ ((mx : Int) - n1 < mx) := by omega
                    clear h0 hopt
                    go_wp2_with fail
                    go_meet
                    exact ⟨_, rfl, Lib.hid hD.out.symm, rfl⟩
                  · have h1 : ((mx : Int) - n1 < mx) := by omega
                    have h2 : ((fs.length : Int) == (mx : Int) - n1) = false := by simp; omega
                    clear h0 hopt
                    go_wp2_with fail
                    go_meet
                    exact ⟨_, rfl, Lib.hid hD.out.symm, rfl⟩
              case rest =>
              obtain ⟨b72, rfl, HB72, rfl⟩ := hcut
              go_upto_if 72 with fail
              obtain ⟨wo2, rfl⟩ : ∃ wo2 : World, wo2 = wo := ⟨_, rfl⟩
              go_cut [0] (fun v0 wc => ∃ A2 c2, v0 = .slice A2 (if 0 < n1 ∧ fs.length = mx - n1 then (if 0 < q &&& 128 then fs ++ [⟨#[42]⟩] else ⟨#[48]⟩ :: fs) else fs).length c2 ∧
                Hid (wc.ownsRow base 9 1 (.slice A2 (if 0 < n1 ∧ fs.length = mx - n1 then (if 0 < q &&& 128 then fs ++ [⟨#[42]⟩] else ⟨#[48]⟩ :: fs) else fs).length c2) (if 0 < n1 ∧ fs.length = mx - n1 then (if 0 < q &&& 128 then fs ++ [⟨#[42]⟩] else ⟨#[48]⟩ :: fs) else fs).length ((if 0 < n1 ∧ fs.length = mx - n1 then (if 0 < q &&& 128 then fs ++ [⟨#[42]⟩] else ⟨#[48]⟩ :: fs) else fs).map Value.string)) ∧ Below base w wc ∧ w.heap.size ≤ wc.heap.size ∧ wc.heap[ge]? = w.heap[ge]?)
              case first =>
                have hown1 := own_below hown hb1
                have hB1 : Below base w wo2 := hb1.mono hbase
                cases b72 with
                | true =>
                  have HO : Hid (0 < n1 ∧ fs.length = mx - n1) := Lib.hid (of_decide_eq_true HB72.out.symm)
                  have hflen : fs.length ≤ 6 := by omega
                  obtain ⟨i0, hi0, hz0, hz1, hz2⟩ := info_parts info_string
                  by_cases h128 : 0 < q &&& 128
                  · have hand : bits .and .i64 (q : Int) 128 = ((q &&& 128 : Nat) : Int) := and_i64 (b := 128) (by omega) (by decide)
                    have hpos : (0 : Int) < ((q &&& 128 : Nat) : Int) := by omega
                    go_wp2_with fail
                    refine (defaults_any _).mono ?_
                    rintro e w3 ⟨gd, cd, rfl, hgd, htd, hb3⟩
                    have hd5 : w3.cell? ⟨gd, 5, none⟩ = some (.string ⟨#[42]⟩) := htd.at_ 5 _ rfl
                    have hown3 := own_below hown1 hb3
                    have hbase3 : base ≤ w3.heap.size := by have := hb1.size; have := hb3.size; omega
                    have hB3 : Below base w w3 := hB1.trans (hb3.mono (by have := hb1.size; omega))
                    clear htd
                    go_wp2_with (at_builtin; refine wpList_append_own _ rfl _ _ 33 rfl base 9 i0 (.string ⟨#[]⟩) 1 16 Tryz.underlying33 hi0 hz0 hz1 hz2 rfl (by decide) (.slice A fs.length cv) fs.length (fs.map Value.string) rfl (hown3.alloc _) ⟨w3.heap.size, 0, none⟩ 1 1 [_] rfl rfl (one_new w3 _ _) (by intro u hu; simp at hu; subst hu; rfl) (by unfold maxLen; omega) (by omega) (by simp; omega) ?_; intro v' w4 hown' hgrow _)
                    obtain ⟨A2, c2, rfl⟩ := own_slice hown'
                    have hg13 : ge < w3.heap.size := by have := hb1.size; have := hb3.size; omega
                    have hk4 : w4.heap[ge]? = w.heap[ge]? := (hgrow.block ge (by simp; omega) (fun e => hrow e.symm)).trans (((Below.refl w3.heap.size w3).alloc (Nat.le_refl _) _ |>.block ge hg13).trans ((hb3.block ge (by have := hb1.size; omega)).trans (hb1.block ge hgeB)))
                    have hB4 : Below base w w4 := (hB3.alloc hbase3 _).grown hgrow (by simp; omega) (fun k hk => (hown3.lt k hk).1)
                    have hz4 : w.heap.size ≤ w4.heap.size := hB4.size
                    clear hown3 hgrow hB3 hb3 hd5
                    go_wp2_with fail
                    go_meet
                    refine ⟨A2, c2, ?_, Lib.hid ?_, hB4, hz4, hk4⟩
                    · rw [if_pos HO.out, if_pos h128, List.length_append]; rfl
                    · rw [if_pos HO.out, if_pos h128, List.length_append, List.map_append]; exact hown'
                  · have hand : bits .and .i64 (q : Int) 128 = ((q &&& 128 : Nat) : Int) := and_i64 (b := 128) (by omega) (by decide)
                    have hneg : ¬ (0 : Int) < ((q &&& 128 : Nat) : Int) := by omega
                    have hand2 : bits .and .i64 (q : Int) 2 = ((q &&& 2 : Nat) : Int) := and_i64 (b := 2) (by omega) (by decide)
                    have hbit := HBIT.out (by have := HO.out.1; omega) h128
                    have hpos : (0 : Int) < ((q &&& 2 : Nat) : Int) := by omega
                    go_wp2_with fail
                    refine (defaults_any _).mono ?_
                    rintro e w3 ⟨gd, cd, rfl, hgd, htd, hb3⟩
                    have hd0 : w3.cell? ⟨gd, 0, none⟩ = some (.string ⟨#[48]⟩) := htd.at_ 0 _ rfl
                    have hown3 := own_below hown1 hb3
                    have hbase3 : base ≤ w3.heap.size := by have := hb1.size; have := hb3.size; omega
                    have hB3 : Below base w w3 := hB1.trans (hb3.mono (by have := hb1.size; omega))
                    have hlit : (w3.alloc (.cells #[.string ⟨#[48]⟩] 9)).ownsRow base 9 1 (.slice (some ⟨w3.heap.size, 0, none⟩) 1 1) 1 [.string ⟨#[48]⟩] := World.ownsRow_lit w3 #[.string ⟨#[48]⟩] 1 hbase3 (by decide) rfl
                    clear htd
                    have hnm2 := HO.out
                    have hones : ∀ u ∈ fs.map Value.string, u.oneCell' = true := by
                      intro u hu
                      rw [List.mem_map] at hu
                      obtain ⟨x, _, rfl⟩ := hu
                      rfl
                    rcases hown3.2 with ⟨he, h0⟩ | ⟨g, cap, cur, he, _⟩
                    · injection he with e1 e2 e3
                      have hnil : fs = [] := List.length_eq_zero_iff.1 h0
                      have HNIL := Lib.hid hnil
                      subst e1
                      subst e3
                      rw [h0] at hown3
                      clear hnil hnm2 h0 e2
                      have HL0 : Hid (fs.length = 0) := Lib.hid (by rw [HNIL.out]; rfl)
                      have hB4 : Below base w (w3.alloc (.cells #[.string ⟨#[48]⟩] 9)) := hB3.alloc hbase3 _
                      have hz4 := hB4.size
                      have hg13 : ge < w3.heap.size := by have := hb1.size; have := hb3.size; omega
                      have hk4 : (w3.alloc (.cells #[.string ⟨#[48]⟩] 9)).heap[ge]? = w.heap[ge]? := ((Below.refl w3.heap.size w3).alloc (Nat.le_refl _) _ |>.block ge hg13).trans ((hb3.block ge (by have := hb1.size; omega)).trans (hb1.block ge hgeB))
                      go_wp2_with (at_builtin; refine wpList_append_own_none rfl _ _ 33 rfl base 9 i0 1 Tryz.underlying33 hi0 (.slice (some ⟨w3.heap.size, 0, none⟩) 1 1) 1 [.string ⟨#[48]⟩] rfl hlit (congrArg (fun n => Value.slice none n 0) HL0.out) ?_)
                      go_meet
                      refine ⟨some ⟨w3.heap.size, 0, none⟩, 1, ?_, Lib.hid ?_, hB4, hz4, hk4⟩
                      · rw [if_pos HO.out, if_neg h128, HNIL.out]; rfl
                      · rw [if_pos HO.out, if_neg h128, HNIL.out]; exact hlit
                    · injection he with e1 e2 e3
                      subst e1
                      subst e3
                      clear hnm2 e2
                      have hcells := (hown3.alloc (.cells #[.string ⟨#[48]⟩] 9)).cells (g := g) rfl
                      go_wp2_with (at_builtin; refine wpList_append_own _ rfl _ _ 33 rfl base 9 i0 (.string ⟨#[]⟩) 1 16 Tryz.underlying33 hi0 hz0 hz1 hz2 rfl (by decide) (.slice (some ⟨w3.heap.size, 0, none⟩) 1 1) 1 [.string ⟨#[48]⟩] rfl hlit ⟨g, 0, none⟩ fs.length cv (fs.map Value.string) rfl (by simp) hcells hones (by unfold maxLen; omega) (by omega) (by simp; omega) ?_; intro v' w4 hown' hgrow _)
                      obtain ⟨A2, c2, rfl⟩ := own_slice hown'
                      have hg13 : ge < w3.heap.size := by have := hb1.size; have := hb3.size; omega
                      have hk4 : w4.heap[ge]? = w.heap[ge]? := (hgrow.block ge (by simp; omega) (fun e => by simp [Value.ownBlock] at e; omega)).trans (((Below.refl w3.heap.size w3).alloc (Nat.le_refl _) _ |>.block ge hg13).trans ((hb3.block ge (by have := hb1.size; omega)).trans (hb1.block ge hgeB)))
                      have hB4 : Below base w w4 := (hB3.alloc hbase3 _).grown hgrow (by simp; omega) (fun k hk => (hlit.lt k hk).1)
                      have hz4 : w.heap.size ≤ w4.heap.size := hB4.size
                      clear hown3 hgrow hB3 hb3 hd0 hcells
                      go_wp2_with fail
                      go_meet
                      refine ⟨A2, c2, ?_, Lib.hid ?_, hB4, hz4, hk4⟩
                      · rw [if_pos HO.out, if_neg h128, List.length_cons, Nat.add_comm]
                      · rw [if_pos HO.out, if_neg h128, List.length_cons, List.map_cons, Nat.add_comm]; exact hown'
                | false =>
                  have HO : Hid (¬ (0 < n1 ∧ fs.length = mx - n1)) := Lib.hid (of_decide_eq_false HB72.out.symm)
                  go_wp2_with fail
                  go_meet
                  refine ⟨A, cv, ?_, Lib.hid ?_, hB1, hb1.size, hb1.block ge hgeB⟩
                  · rw [if_neg HO.out]
                  · rw [if_neg HO.out]; exact hown1
              case rest =>
                obtain ⟨A2, c2, rfl, HOWN, hB2, hz2w, hk2⟩ := hcut
                have HK2 := Lib.hid hk2
                clear hk2
                obtain ⟨i0, hi0, hz0, hz1, hz2⟩ := info_parts info_string
                have hmk := fun w' : World => run_make w' 33 9 i0 (.string ⟨#[]⟩) Tryz.underlying33 hi0 hz0 .i64 .i64 6 6 (by omega) (by omega) (by rw [hz2]; omega) (by omega)
                rw [hz1] at hmk
                generalize hf2 : (if 0 < n1 ∧ fs.length = mx - n1 then (if 0 < q &&& 128 then fs ++ [⟨#[42]⟩] else ⟨#[48]⟩ :: fs) else fs) = f2 at *
                have HLEN : Hid (f2.length = mx) := Lib.hid (by
                  rw [← hf2]
                  split
                  · rename_i hc
                    obtain ⟨hc1, hc2⟩ := hc
                    split
                    · rw [List.length_append, List.length_singleton]; omega
                    · rw [List.length_cons]; omega
                  · rename_i hc
                    omega)
                have HF2 : Hid (∀ (i : Nat) x, f2[i]? = some x → ∃ g2, A2 = some ⟨g2, 0, none⟩ ∧ g2 < wc.heap.size ∧ wc.cell? ⟨g2, i, none⟩ = some (.string x)) := Lib.hid (by
                  rcases HOWN.out.2 with ⟨he, h0⟩ | ⟨g, cap, cur, he, hbg, hgc, _⟩
                  · intro i x hx
                    rw [List.length_eq_zero_iff.1 h0] at hx
                    cases hx
                  · intro i x hx
                    injection he with e1 e2 e3
                    refine ⟨g, e1, (Array.getElem?_eq_some_iff.1 hgc).1, ?_⟩
                    have := HOWN.out.cells (g := g) (by rw [e1]; rfl) i _ (by rw [List.getElem?_map, hx]; rfl)
                    have hadd : ((⟨g, 0, none⟩ : Addr).add i) = ⟨g, i, none⟩ := by unfold Addr.add; split <;> simp_all
                    rw [hadd] at this
                    exact this)
                clear hf2 HMIN HBIT HB72 hge hle hnm hn1 HN1
                have hbase2 : base ≤ wc.heap.size := by omega
                go_wp2_with fail
                refine (places_any _).mono ?_
                rintro e w3 ⟨g3, c3, rfl, hg3, hp3, hb3⟩
                go_wp2_with fail
                refine (defaults_any _).mono ?_
                rintro e w5 ⟨gd, cd, rfl, hgd, htd, hb5⟩
                have hrow : w5.heap[w3.heap.size]? = some (.cells (madeCells #[.string ⟨#[]⟩] 6) 9 (0, 0)) := (hb5.block w3.heap.size (by simp)).trans (heap_alloc_new w3 _)
                have hsrc : ∀ j v, (defaultsL.map Value.string)[j]? = some v → w5.cell? ((⟨gd, 0, none⟩ : Addr).add j) = some v := by
                  intro j v hv
                  rw [List.getElem?_map] at hv
                  obtain ⟨x, hx, rfl⟩ := Option.map_eq_some_iff.1 hv
                  have := htd.at_ j x hx
                  have hadd : ((⟨gd, 0, none⟩ : Addr).add j) = ⟨gd, j, none⟩ := by unfold Addr.add; split <;> simp_all
                  rw [hadd]
                  exact this
                have hones : ∀ u ∈ defaultsL.map Value.string, u.oneCell' = true := by
                  intro u hu
                  rw [List.mem_map] at hu
                  obtain ⟨x, _, rfl⟩ := hu
                  rfl
                have hge3 : base ≤ w3.heap.size := by have := hb3.size; omega
                have hB3 : Below base w w3 := hB2.trans (hb3.mono hbase2)
                have hB5 : Below base w w5 := (hB3.alloc hge3 _).trans (hb5.mono (by simp; omega))
                have HROW := Lib.hid hrow
                have HSRC := Lib.hid hsrc
                have hsz9 : (Tryz.prog.info? 9).map (·.size) = some 1 := by rw [hi0]; simp [hz1]
                have HOWN5 : Hid (w5.ownsRow base 9 1 (.slice A2 f2.length c2) f2.length (f2.map Value.string)) := Lib.hid (own_below ((own_below HOWN.out hb3).alloc _) hb5)
                have HB5 := Lib.hid hB5
                have hle3 : wc.heap.size ≤ w3.heap.size := hb3.size
                have HBW5 : Hid (Below wc.heap.size wc w5) := Lib.hid ((hb3.alloc hb3.size _).trans (hb5.mono (by simp; omega)))
                clear hrow hsrc hb3 hb5 htd hB3 hB5 HOWN hB2
                go_wp2_with (refine wpList_copy_own rfl _ _ 33 33 rfl 9 Tryz.underlying33 hsz9 w3.heap.size 0 6 6 ⟨gd, 0, none⟩ 6 cd rfl rfl _ 9 HROW.out (defaultsL.map Value.string) rfl HSRC.out (by simp [madeCells, defaultsL]) hones ?_)
                have hdrop : (defaultsL.map Value.string ++ List.drop defaultsL.length (madeCells #[Value.string ⟨#[]⟩] 6).toList).toArray = (defaultsL.map Value.string).toArray := by simp [madeCells, defaultsL]
                have hrow6 : (w5.setRow w3.heap.size (defaultsL.map Value.string ++ List.drop defaultsL.length (madeCells #[Value.string ⟨#[]⟩] 6).toList).toArray).heap[w3.heap.size]? = some (.cells (defaultsL.map Value.string).toArray 9 (0, 0)) := by
                  rw [hdrop]
                  exact setRow_heap w5 _ _ _ _ _ HROW.out
                have hB6 : Below base w (w5.setRow w3.heap.size (defaultsL.map Value.string ++ List.drop defaultsL.length (madeCells #[Value.string ⟨#[]⟩] 6).toList).toArray) := below_setRow HB5.out hge3 _
                have HROW6 := Lib.hid hrow6
                have HB6 := Lib.hid hB6
                have HBW6 : Hid (Below wc.heap.size wc (w5.setRow w3.heap.size (defaultsL.map Value.string ++ List.drop defaultsL.length (madeCells #[Value.string ⟨#[]⟩] 6).toList).toArray)) := Lib.hid (below_setRow HBW5.out hle3 _)
                clear hdrop hrow6 hB6 HROW HSRC HOWN5 HBW5 HB5
                generalize w5.setRow w3.heap.size _ = w6 at *
                refine (places_any _).mono ?_
                rintro e w7 ⟨g7, c7, rfl, hg7, hp7, hb7⟩
                have hg3lt : w3.heap.size < w6.heap.size := (Array.getElem?_eq_some_iff.1 HROW6.out).1
                have HROW7 : Hid (w7.heap[w3.heap.size]? = some (.cells ((fillRow (fillL q placesL defaultsL f2) defaultsL 0).map Value.string).toArray 9 (0, 0))) := Lib.hid (by
                  rw [fillRow_zero]
                  exact (hb7.block _ hg3lt).trans HROW6.out)
                have HB7 : Hid (Below base w w7) := Lib.hid (HB6.out.trans (hb7.mono (by omega)))
                have HBW7 : Hid (Below wc.heap.size wc w7) := Lib.hid (HBW6.out.trans (hb7.mono (by omega)))
                have HP7 := Lib.hid hp7
                have hgne : g7 ≠ w3.heap.size := by omega
                clear HROW6 HB6 HBW6 hb7 hp7
                go_wp2_with fail
                go_loopw [12, 102] (fun v12 v102 wr => ∃ i : Nat, v102 = .int .i64 i ∧ i ≤ 6 ∧ v12 = .int .i64 (takenN q (placesL.take i) : Nat) ∧
                  Hid (wr.heap[w3.heap.size]? = some (.cells ((fillRow (fillL q placesL defaultsL f2) defaultsL i).map Value.string).toArray 9 (0, 0))) ∧ Hid (Below base w wr) ∧ Hid (Below wc.heap.size wc wr) ∧ Hid (Ints wr g7 6 c7 placesL)) (fun _ v102 _ => 6 - (intOf v102).toNat)
                case atStart => exact ⟨0, rfl, by omega, rfl, HROW7, HB7, HBW7, HP7⟩
                case round =>
                  obtain ⟨i, rfl, hi6, rfl, HROWr, HBr, HBWr, HPr⟩ := hrel
                  clear HROW7 HB7 HBW7 HP7
                  by_cases h6 : i < 6
                  · have hl : i < placesL.length := by simpa [placesL] using h6
                    have hcp := HPr.out.at_ i _ (List.getElem?_eq_getElem hl)
                    have hst := taken_step q i h6
                    have hsl := taken_take_le q placesL (i + 1)
                    have hFi := fill_at q placesL defaultsL f2 i hl rfl (by have := HLEN.out; have := HMX.out; omega)
                    have hplt := places_lt i hl
                    have hdl : i < defaultsL.length := by simpa [defaultsL] using h6
                    have htn := taken_le q (placesL.take i)
                    have htn2 : (placesL.take i).length ≤ 6 := by rw [List.length_take]; simp [placesL]; omega
                    generalize placesL[i] = p at *
                    have hand : bits .and .i64 (q : Int) (p : Int) = ((q &&& p : Nat) : Int) := and_i64 (by omega) (by omega)
                    by_cases hpos : 0 < q &&& p
                    · rw [if_pos hpos] at hst hFi
                      have hlt2 : takenN q (placesL.take i) < f2.length := by have := HLEN.out; have := HMX.out; omega
                      have hx := List.getElem?_eq_getElem hlt2
                      generalize f2[takenN q (placesL.take i)] = x at hx
                      rw [hx] at hFi
                      obtain ⟨g2, rfl, hg2, hc2⟩ := HF2.out _ x hx
                      have hcr : wr.cell? ⟨g2, takenN q (placesL.take i), none⟩ = some (.string x) := (HBWr.out.cell (p := ⟨g2, takenN q (placesL.take i), none⟩) hg2).trans hc2
                      have hlen6 : (fillRow (fillL q placesL defaultsL f2) defaultsL i).length = 6 := by
                        unfold fillRow
                        rw [List.length_append, List.length_take, List.length_drop, fill_length _ _ _ _ rfl]
                        simp [placesL, defaultsL]; omega
                      have hcd : ∃ d, wr.cell? ⟨w3.heap.size, i, none⟩ = some d := by
                        rw [cell_of_row wr w3.heap.size i _ _ _ HROWr.out]
                        exact ⟨_, Array.getElem?_eq_getElem (by simp [hlen6]; omega)⟩
                      obtain ⟨d, hcd⟩ := hcd
                      have hfd : wr.frozen? ⟨w3.heap.size, i, none⟩ = false := frozen_of_row _ _ _ _ _ HROWr.out
                      have HT : Hid (takenN q (placesL.take (i + 1)) = takenN q (placesL.take i) + 1) := Lib.hid hst
                      have HFS := Lib.hid (fillRow_set (F := fillL q placesL defaultsL f2) (ds := defaultsL) hFi hdl)
                      have hpi : (0 : Int) < ((q &&& p : Nat) : Int) := by omega
                      clear hst hsl hFi hx hc2 hlen6
                      generalize takenN q (placesL.take i) = tn at *
                      go_wp2_with fail
                      go_roundw
                      case rel =>
                        refine ⟨i + 1, by go_num, by omega, by rw [HT.out]; go_num, Lib.hid ?_, Lib.hid (HBr.out.setCell hge3 _), Lib.hid (HBWr.out.setCell hle3 _), Lib.hid (HPr.out.put hgne _)⟩
                        rw [← HFS.out]
                        exact row_put x HROWr.out
                      case measure => simp [intOf]; omega
                    · rw [if_neg hpos] at hst hFi
                      have hpi : ¬ (0 : Int) < ((q &&& p : Nat) : Int) := by omega
                      have HT : Hid (takenN q (placesL.take (i + 1)) = takenN q (placesL.take i)) := Lib.hid hst
                      have HFS := Lib.hid (fillRow_same (F := fillL q placesL defaultsL f2) (ds := defaultsL) (hFi.trans (List.getElem?_eq_getElem hdl)) (List.getElem?_eq_getElem hdl))
                      clear hst hsl hFi
                      generalize takenN q (placesL.take i) = tn at *
                      go_wp2_with fail
                      go_roundw
                      case rel => exact ⟨i + 1, by go_num, by omega, by rw [HT.out], Lib.hid (by rw [HFS.out]; exact HROWr.out), HBr, HBWr, HPr⟩
                      case measure => simp [intOf]; omega
                  · have hi : i = 6 := by omega
                    subst hi
                    have hend := fillRow_end (F := fillL q placesL defaultsL f2) (ds := defaultsL) (i := 6) (by rw [fill_length _ _ _ _ rfl]; simp [placesL]) (by simp [defaultsL])
                    have hrowF := HROWr.out
                    rw [hend] at hrowF
                    have HT : Hid (Texts wr w3.heap.size 6 6 (fillL q placesL defaultsL f2)) := Lib.hid ⟨by rw [fill_length _ _ _ _ rfl]; rfl, Nat.le_refl _, (Array.getElem?_eq_some_iff.1 hrowF).1, fun j x hx => by
                      rw [cell_of_row wr w3.heap.size j _ _ _ hrowF]
                      simp [hx]⟩
                    clear hend hrowF h6
                    go_wp2_with fail
                    go_ret2
                    refine ⟨?_, HBr.out, (HBWr.out.block ge (by omega)).trans HK2.out⟩
                    rw [HR.out]
                    exact ⟨w3.heap.size, 6, rfl, by omega, HT.out⟩
end Go.Proofs.YtmecbmgfacpecaaGreatDoor.Cron
