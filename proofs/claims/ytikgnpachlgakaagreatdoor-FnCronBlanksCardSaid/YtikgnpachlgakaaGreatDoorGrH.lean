/- Lemmas and walks on the way to the law, merged by wip/tools/pack.py: Fill, Lower, ZZFields. Conditions: none. -/
import Derived.Test.YtikgnpachlgakaaGreatDoorGrG
import Derived.Test.YtikgnpachlgakaaGreatDoorGrA
import Derived.Lib.OthersKept
import Derived.Lib.AppendStr
import Derived.Lib.TrimU
import Derived.Deep.LoopGhost
import Derived.Deep.DeepMust
import Derived.Laws.IdiomStrings
import Derived.Laws.Cover4
import Derived.Laws.BytesString
import Derived.Shelf.Strings.FieldsFuncAny
import Derived.Test.YtikgnpachlgakaaGreatDoorPrB
import Derived.Lib.FieldsP
namespace Go.Proofs.YtikgnpachlgakaaGreatDoor.Cron
open Go Go.RowKit
set_option linter.unusedVariables false

theorem takenN_cons (q p : Nat) (ps : List Nat) : takenN q (p :: ps) = (if 0 < q &&& p then 1 else 0) + takenN q ps := by
  unfold takenN
  by_cases h : 0 < q &&& p
  · rw [List.filter_cons_of_pos (by simpa using h), if_pos h, List.length_cons, Nat.add_comm]
  · rw [List.filter_cons_of_neg (by simpa using h), if_neg h, Nat.zero_add]

theorem fill_length (q : Nat) : ∀ (ps : List Nat) (ds fs : List ByteArray), ps.length = ds.length → (fillL q ps ds fs).length = ps.length
  | [], [], _, _ => rfl
  | p :: ps, d :: ds, fs, h => by
    have h' : ps.length = ds.length := by simpa using h
    unfold fillL
    by_cases hp : 0 < q &&& p
    · rw [if_pos hp]
      cases fs with
      | nil => simp [fill_length q ps ds [] h']
      | cons f fs => simp [fill_length q ps ds fs h']
    · rw [if_neg hp]
      simp [fill_length q ps ds fs h']

/-- what stands in each place -/
theorem fill_at (q : Nat) : ∀ (ps : List Nat) (ds fs : List ByteArray) (i : Nat) (h : i < ps.length), ps.length = ds.length → takenN q ps ≤ fs.length →
    (fillL q ps ds fs)[i]? = if 0 < q &&& ps[i] then fs[takenN q (ps.take i)]? else ds[i]?
  | p :: ps, d :: ds, fs, i, h, hl, ht => by
    have hl' : ps.length = ds.length := by simpa using hl
    rw [takenN_cons] at ht
    unfold fillL
    by_cases hp : 0 < q &&& p
    · rw [if_pos hp] at ht ⊢
      cases fs with
      | nil => simp at ht
      | cons f fs =>
        cases i with
        | zero => simp [hp, takenN]
        | succ i =>
          have hi : i < ps.length := by simpa using h
          have ih := fill_at q ps ds fs i hi hl' (by simp at ht; omega)
          simp only [List.getElem?_cons_succ, List.getElem_cons_succ, List.take_succ_cons, takenN_cons, if_pos hp]
          rw [ih, Nat.add_comm 1, List.getElem?_cons_succ]
    · rw [if_neg hp] at ht ⊢
      cases i with
      | zero => simp [hp]
      | succ i =>
        have hi : i < ps.length := by simpa using h
        have ih := fill_at q ps ds fs i hi hl' (by omega)
        simp only [List.getElem?_cons_succ, List.getElem_cons_succ, List.take_succ_cons, takenN_cons, if_neg hp, Nat.zero_add]
        exact ih

/-- the row behind i rounds -/
def fillRow (F ds : List ByteArray) (i : Nat) : List ByteArray := F.take i ++ ds.drop i

theorem fillRow_same {F ds : List ByteArray} {i : Nat} {x : ByteArray} (hF : F[i]? = some x) (hd : ds[i]? = some x) : fillRow F ds (i + 1) = fillRow F ds i := by
  unfold fillRow
  obtain ⟨h1, h2⟩ := List.getElem?_eq_some_iff.1 hd
  rw [List.take_add_one, hF, List.drop_eq_getElem_cons h1, h2]
  simp

theorem fillRow_set {F ds : List ByteArray} {i : Nat} {x : ByteArray} (hF : F[i]? = some x) (hd : i < ds.length) : (fillRow F ds i).set i x = fillRow F ds (i + 1) := by
  unfold fillRow
  have hl : i < F.length := (List.getElem?_eq_some_iff.1 hF).1
  rw [List.take_add_one, hF, List.drop_eq_getElem_cons hd]
  have ht : (F.take i).length = i := by rw [List.length_take]; omega
  rw [List.set_append_right _ _ (by omega), ht, Nat.sub_self, List.set_cons_zero, Option.toList_some, List.append_assoc, List.singleton_append]

theorem fillRow_zero (F ds : List ByteArray) : fillRow F ds 0 = ds := by simp [fillRow]
theorem fillRow_end {F ds : List ByteArray} {i : Nat} (h1 : F.length ≤ i) (h2 : ds.length ≤ i) : fillRow F ds i = F := by
  unfold fillRow
  rw [List.take_of_length_le h1, List.drop_eq_nil_of_le h2, List.append_nil]

end Go.Proofs.YtikgnpachlgakaaGreatDoor.Cron

namespace Go.Proofs.YtikgnpachlgakaaGreatDoor.Cron
open Go Go.RowKit Go.Lib
set_option linter.unusedVariables false

/-- a rune in lower case, as bytes -/
def lowRune (r : Nat) : List UInt8 :=
  if 65 ≤ r ∧ r ≤ 90 then [UInt8.ofNat (r + 32)] else if r = 304 then [105] else if r = 8490 then [107] else (Utf8.encode (r : Int)).data.toList

/-- the runes from a place on -/
def lowGo (s : ByteArray) : Nat → Nat → List UInt8
  | 0, _ => []
  | f + 1, pos => if pos < s.size then lowRune (Utf8.decode s pos).1 ++ lowGo s f (pos + (Utf8.decode s pos).2) else []

def lowS (s : ByteArray) : List UInt8 := lowGo s s.size 0

theorem lowGo_end (s : ByteArray) (f pos : Nat) (h : ¬ pos < s.size) : lowGo s f pos = [] := by
  cases f with
  | zero => rfl
  | succ f => rw [lowGo, if_neg h]

theorem info_byte : (Tryz.prog.info? 5).map (fun i => (i.zero, i.size, i.bytes)) = some (some (.int .u8 0), 1, 1) := by kernel_rfl

def cells8 (l : List UInt8) : List Value := l.map fun b => Value.int .u8 b.toNat

theorem cells8_str (s : ByteArray) : strCells s = cells8 s.data.toList := rfl
theorem cells8_append (a b : List UInt8) : cells8 (a ++ b) = cells8 a ++ cells8 b := by simp [cells8]

theorem one_new (w : World) (x : Value) (t : TypeId) : ∀ j u, [x][j]? = some u → (w.alloc (.cells #[x] t)).cell? ((⟨w.heap.size, 0, none⟩ : Addr).add j) = some u := by
  intro j u hj
  match j, hj with
  | 0, hj => simp at hj; subst hj; simp [Addr.add]
  | (j + 1), hj => simp at hj

theorem run_rune_string (w : World) (r : Nat) : (convert 21 9 (.int .i32 (r : Int))).run Tryz.prog w = .ok (.string (Utf8.encode (r : Int))) w := by
  simp [convert, run_underlying Tryz.underlying21, run_underlying Tryz.underlying9, Conv.intToString]

theorem conv_own {w : World} {B : Nat} {v : Value} {l : List UInt8} (h : w.ownsRow B 5 1 v l.length (cells8 l)) : (convert 159 9 v).run Tryz.prog w = .ok (.string ⟨l.toArray⟩) w := by
  rcases h.2 with ⟨rfl, h0⟩ | ⟨g, cap, cur, rfl, hb, hg, hle, hcap, hsz, ht⟩
  · have : l = [] := List.length_eq_zero_iff.1 h0
    subst this
    rw [run_convert_bytes_string w _ _ _ none 0 0 Tryz.underlying159 Tryz.underlying5 Tryz.underlying9]
    rfl
  · exact run_convert_bytes_back w _ _ _ ⟨g, 0, none⟩ cap l Tryz.underlying159 Tryz.underlying5 Tryz.underlying9 (fun j hj => h.cells (g := g) rfl j _ (by simp [cells8, hj]))

theorem low_step {w W w1 : World} {v : Value} {n : Nat} {xs : List Value} {s : ByteArray} {p : Nat} {e : TypeId} (o : Obj) (hb : Below w.heap.size w W) (hit : W.heap[w.heap.size]? = some (.stringIter s p)) (hown : W.ownsRow w.heap.size e 1 v n xs)
    (hgrow : (W.alloc o).grownBy w1 v.ownBlock) : w1.heap[w.heap.size]? = some (.stringIter s p) ∧ Below w.heap.size w w1 := by
  have hlt : w.heap.size < W.heap.size := (Array.getElem?_eq_some_iff.1 hit).1
  refine ⟨?_, ?_⟩
  · rw [hgrow.block w.heap.size (by simp; omega) (own_ne_iter hown hit), heap_alloc_old W o hlt]
    exact hit
  · exact (hb.alloc hb.size o).grown hgrow (by simp; omega) (fun k hk => (hown.lt k hk).1)

theorem low_step0 {w W w1 : World} {v : Value} {n : Nat} {xs : List Value} {s : ByteArray} {p : Nat} {e : TypeId} (hb : Below w.heap.size w W) (hit : W.heap[w.heap.size]? = some (.stringIter s p)) (hown : W.ownsRow w.heap.size e 1 v n xs)
    (hgrow : W.grownBy w1 v.ownBlock) : w1.heap[w.heap.size]? = some (.stringIter s p) ∧ Below w.heap.size w w1 := by
  have hlt : w.heap.size < W.heap.size := (Array.getElem?_eq_some_iff.1 hit).1
  refine ⟨?_, ?_⟩
  · rw [hgrow.block w.heap.size hlt (own_ne_iter hown hit)]
    exact hit
  · exact hb.grown hgrow (by omega) (fun k hk => (hown.lt k hk).1)

set_option maxRecDepth 100000 in
set_option maxHeartbeats 4000000 in
theorem zzLower_any (s : ByteArray) (hs : s.size ≤ 4294967296) (w : World) :
    Calls Tryz.prog 82 #[.string s] w fun e w' => e = .returned (.string ⟨(lowS s).toArray⟩) ∧ Below w.heap.size w w' := by
  obtain ⟨i0, hi, hz0, hz1, hz2⟩ := info_parts info_byte
  go_enter Tryz.func82, Tryz.ntmps82
  go_wp2
  go_loopg [3] s.size (fun gf s3 wx => ∃ (pos : Nat) (acc : List UInt8), wx.ownsRow w.heap.size 5 1 s3 acc.length (cells8 acc) ∧ wx.heap[w.heap.size]? = some (.stringIter s pos) ∧ Below w.heap.size w wx ∧
      Hid (acc ++ lowGo s gf pos = lowS s) ∧ s.size ≤ pos + gf ∧ pos ≤ s.size ∧ acc.length ≤ 4 * pos)
  case atStart =>
    exact ⟨0, [], World.ownsRow_nil _ _ _ _, World.iter_heap w s 0, (Below.refl _ _).alloc (Nat.le_refl _) _, Lib.hid rfl, by omega, Nat.zero_le _, by simp⟩
  case round =>
    obtain ⟨pos, acc, hown, hit, hbw, HG, hfu, hps, hal⟩ := hrel
    by_cases hlt : pos < s.size
    · obtain ⟨g', rfl⟩ : ∃ g', gk = g' + 1 := ⟨gk - 1, by omega⟩
      have hnx : ∀ ty, (Instr.next (.pointer (some ⟨w.heap.size, 0, none⟩)) true ty).run Tryz.prog wr = _ := fun ty => Lib.run_next_any_at wr w.heap.size s pos ty hit hlt
      have hwd := Lib.width_pos s pos
      have hwn : pos + (Utf8.decode s pos).2 ≤ s.size := by
        have := Lib.decodeN_le_n' (s.size - pos) (s.get! pos).toNat (s.get! (pos + 1)).toNat (s.get! (pos + 2)).toNat (s.get! (pos + 3)).toNat (by omega)
        rw [← Lib.decode_at] at this
        omega
      have hrl := Lib.rune_le s pos
      have hG := HG.out
      rw [lowGo, if_pos hlt] at hG
      generalize (Utf8.decode s pos).1 = R at *
      generalize (Utf8.decode s pos).2 = K at *
      have hit2 := Lib.iterAt_heap wr w.heap.size s pos (pos + K) hit
      have hbw2 := Lib.below_iterAt hbw (k := w.heap.size) (Nat.le_refl _) s (pos + K)
      have hown2 := own_iterAt hown hit (pos + K)
      obtain ⟨W, hWd⟩ : ∃ W, wr.iterAt w.heap.size s (pos + K) = W := ⟨_, rfl⟩
      rw [hWd] at hnx hit2 hbw2 hown2
      have HG2 := Lib.hid hG
      clear hown hit hbw HG hG
      have hne := own_ne_iter hown2 hit2
      have hz : w.heap.size < W.heap.size := (Array.getElem?_eq_some_iff.1 hit2).1
      by_cases c1 : 65 ≤ R ∧ R ≤ 90
      · obtain ⟨c1a, c1b⟩ := c1
        have hc : lowRune R = [UInt8.ofNat (R + 32)] := by unfold lowRune; rw [if_pos ⟨c1a, c1b⟩]
        rw [hc] at HG2
        go_wp2_with (at_builtin; refine wpList_append_own _ rfl _ _ 159 rfl w.heap.size 5 i0 (.int .u8 0) 1 1 Tryz.underlying159 hi hz0 hz1 hz2 rfl (by decide) _ _ _ rfl (hown2.alloc _) ⟨W.heap.size, 0, none⟩ 1 1 [_] rfl rfl (one_new W _ _) (by intro u hu; simp at hu; subst hu; rfl) (by unfold maxLen; omega) (by omega) (by simp; omega) ?_; intro v' w1 hown' hgrow _)
        obtain ⟨hit3, hbw3⟩ := low_step _ hbw2 hit2 hown2 hgrow
        have hown3 : w1.ownsRow w.heap.size 5 1 v' (acc ++ [UInt8.ofNat (R + 32)]).length (cells8 (acc ++ [UInt8.ofNat (R + 32)])) := by
          rw [List.length_append, cells8_append]
          have hv : (R : Int) - 65 + 97 = ((UInt8.ofNat (R + 32)).toNat : Int) := by
            rw [UInt8.toNat_ofNat']
            omega
          rw [hv] at hown'
          exact hown'
        clear hown' hgrow hown2 hit2 hbw2 hne
        go_roundg g'
        case measure => omega
        case rel => exact ⟨pos + K, acc ++ [UInt8.ofNat (R + 32)], hown3, hit3, hbw3, Lib.hid (by rw [List.append_assoc]; exact HG2.out), by omega, hwn, by simp; omega⟩
      · have hn1 : ¬ ((65 : Int) ≤ R ∧ (R : Int) ≤ 90) := by omega
        have hR1 : (65 : Int) ≤ R → 90 < (R : Int) := by omega
        by_cases c2 : R = 304
        · subst c2
          have hc : lowRune 304 = [105] := by unfold lowRune; rw [if_neg (by omega), if_pos rfl]
          rw [hc] at HG2
          go_wp2_with (at_builtin; refine wpList_append_own _ rfl _ _ 159 rfl w.heap.size 5 i0 (.int .u8 0) 1 1 Tryz.underlying159 hi hz0 hz1 hz2 rfl (by decide) _ _ _ rfl (hown2.alloc _) ⟨W.heap.size, 0, none⟩ 1 1 [_] rfl rfl (one_new W _ _) (by intro u hu; simp at hu; subst hu; rfl) (by unfold maxLen; omega) (by omega) (by simp; omega) ?_; intro v' w1 hown' hgrow _)
          obtain ⟨hit3, hbw3⟩ := low_step _ hbw2 hit2 hown2 hgrow
          have hown3 : w1.ownsRow w.heap.size 5 1 v' (acc ++ [105]).length (cells8 (acc ++ [105])) := by
            rw [List.length_append, cells8_append]
            exact hown'
          clear hown' hgrow hown2 hit2 hbw2 hne
          go_roundg g'
          case measure => omega
          case rel => exact ⟨pos + K, acc ++ [105], hown3, hit3, hbw3, Lib.hid (by rw [List.append_assoc]; exact HG2.out), by omega, hwn, by simp; omega⟩
        · by_cases c3 : R = 8490
          · subst c3
            have hc : lowRune 8490 = [107] := by unfold lowRune; rw [if_neg (by omega), if_neg (by omega), if_pos rfl]
            rw [hc] at HG2
            go_wp2_with (at_builtin; refine wpList_append_own _ rfl _ _ 159 rfl w.heap.size 5 i0 (.int .u8 0) 1 1 Tryz.underlying159 hi hz0 hz1 hz2 rfl (by decide) _ _ _ rfl (hown2.alloc _) ⟨W.heap.size, 0, none⟩ 1 1 [_] rfl rfl (one_new W _ _) (by intro u hu; simp at hu; subst hu; rfl) (by unfold maxLen; omega) (by omega) (by simp; omega) ?_; intro v' w1 hown' hgrow _)
            obtain ⟨hit3, hbw3⟩ := low_step _ hbw2 hit2 hown2 hgrow
            have hown3 : w1.ownsRow w.heap.size 5 1 v' (acc ++ [107]).length (cells8 (acc ++ [107])) := by
              rw [List.length_append, cells8_append]
              exact hown'
            clear hown' hgrow hown2 hit2 hbw2 hne
            go_roundg g'
            case measure => omega
            case rel => exact ⟨pos + K, acc ++ [107], hown3, hit3, hbw3, Lib.hid (by rw [List.append_assoc]; exact HG2.out), by omega, hwn, by simp; omega⟩
          · have hc : lowRune R = (Utf8.encode (R : Int)).data.toList := by unfold lowRune; rw [if_neg c1, if_neg c2, if_neg c3]
            rw [hc] at HG2
            have hel := encode_size_le (R : Int)
            have hcv := fun w' : World => run_rune_string w' R
            generalize Utf8.encode (R : Int) = E at *
            have hem : E.data.toList.length = E.size := Array.length_toList
            have hc2 : ((R : Int) == 304) = false := by simpa using (by omega : ¬ (R : Int) = 304)
            have hc3 : ((R : Int) == 8490) = false := by simpa using (by omega : ¬ (R : Int) = 8490)
            by_cases c4 : 65 ≤ R
            · have c5 : ¬ R ≤ 90 := by omega
              go_wp2_with (at_builtin; refine wpList_append_own_string _ rfl _ _ 159 9 rfl w.heap.size 5 i0 Tryz.underlying159 Tryz.underlying9 hi hz0 hz1 hz2 _ _ _ rfl hown2 _ rfl (by unfold maxLen; omega) (by omega) (by omega) ?_; intro v' w1 hown' hgrow _)
              obtain ⟨hit3, hbw3⟩ := low_step0 hbw2 hit2 hown2 hgrow
              have hown3 : w1.ownsRow w.heap.size 5 1 v' (acc ++ E.data.toList).length (cells8 (acc ++ E.data.toList)) := by
                rw [List.length_append, cells8_append, ← cells8_str, hem]
                exact hown'
              clear hown' hgrow hown2 hit2 hbw2 hne
              go_roundg g'
              case measure => omega
              case rel => exact ⟨pos + K, acc ++ E.data.toList, hown3, hit3, hbw3, Lib.hid (by rw [List.append_assoc]; exact HG2.out), by omega, hwn, by rw [List.length_append]; omega⟩
            · go_wp2_with (at_builtin; refine wpList_append_own_string _ rfl _ _ 159 9 rfl w.heap.size 5 i0 Tryz.underlying159 Tryz.underlying9 hi hz0 hz1 hz2 _ _ _ rfl hown2 _ rfl (by unfold maxLen; omega) (by omega) (by omega) ?_; intro v' w1 hown' hgrow _)
              obtain ⟨hit3, hbw3⟩ := low_step0 hbw2 hit2 hown2 hgrow
              have hown3 : w1.ownsRow w.heap.size 5 1 v' (acc ++ E.data.toList).length (cells8 (acc ++ E.data.toList)) := by
                rw [List.length_append, cells8_append, ← cells8_str, hem]
                exact hown'
              clear hown' hgrow hown2 hit2 hbw2 hne
              go_roundg g'
              case measure => omega
              case rel => exact ⟨pos + K, acc ++ E.data.toList, hown3, hit3, hbw3, Lib.hid (by rw [List.append_assoc]; exact HG2.out), by omega, hwn, by rw [List.length_append]; omega⟩
    · have hpe : pos = s.size := by omega
      have hnx := fun ty => run_next_end_at (P := Tryz.prog) wr w.heap.size s pos ty hit hlt
      have hacc : acc = lowS s := by
        have := HG.out
        rw [lowGo_end _ _ _ hlt, List.append_nil] at this
        exact this
      have hcv := conv_own hown
      rw [hacc] at hcv
      clear HG hown
      go_wp2_with fail
      go_ret
      exact ⟨rfl, hbw⟩

end Go.Proofs.YtikgnpachlgakaaGreatDoor.Cron

namespace Go.Proofs.YtikgnpachlgakaaGreatDoor.Cron
open Go Go.RowKit Go.Lib Go.Proofs.YtikgnpachlgakaaGreatDoorW.PrintWords Go.Proofs.YtikgnpachlgakaaGreatDoorW.PrintLast Go.Proofs.YtikgnpachlgakaaGreatDoorW.PrintMore Go.Proofs.YtikgnpachlgakaaGreatDoor.Pr
set_option linter.unusedVariables false

/-- the characters that zzSpace takes for white space -/
def spaceZ (r : Nat) : Bool :=
  decide (r = 9 ∨ r = 10 ∨ r = 11 ∨ r = 12 ∨ r = 13 ∨ r = 32 ∨ r = 133 ∨ r = 160 ∨ r = 5760 ∨ r = 8232 ∨ r = 8233 ∨ r = 8239 ∨ r = 8287 ∨ r = 12288 ∨ (8192 ≤ r ∧ r ≤ 8202))

theorem space_f (r : Nat) : cron_zzSpace.f (r : Int) = some (spaceZ r) := by
  unfold cron_zzSpace.f
  by_cases h : r = 9 ∨ r = 10 ∨ r = 11 ∨ r = 12 ∨ r = 13 ∨ r = 32 ∨ r = 133 ∨ r = 160 ∨ r = 5760 ∨ r = 8232 ∨ r = 8233 ∨ r = 8239 ∨ r = 8287 ∨ r = 12288
  · have e : spaceZ r = true := by
      unfold spaceZ
      apply decide_eq_true
      omega
    rw [e]
    rcases h with rfl | rfl | rfl | rfl | rfl | rfl | rfl | rfl | rfl | rfl | rfl | rfl | rfl | rfl <;> rfl
  · repeat rw [if_neg (by omega)]
    by_cases h2 : 8192 ≤ r
    · rw [if_pos (by omega)]
      congr 1
      unfold spaceZ
      rw [Bool.eq_iff_iff]
      simp only [decide_eq_true_eq]
      omega
    · rw [if_neg (by omega)]
      congr 1
      unfold spaceZ
      symm
      apply decide_eq_false
      omega

theorem space_any (r : Nat) (w : World) : Calls Tryz.prog 52 #[.int .i32 r] w fun e w' => e = .returned (.bool (spaceZ r)) ∧ ∃ n, w' = w.drewN n := by
  refine (cron_zzSpace.calls r (spaceZ r) w (space_f r)).mono fun e w' ⟨he, hw⟩ => ⟨he, hw.out⟩

/-- the parts of a text between white space -/
def fieldsZ (s : ByteArray) : List ByteArray := Lib.goFieldsP spaceZ s

theorem info_string : (Tryz.prog.info? 9).map (fun i => (i.zero, i.size, i.bytes)) = some (some (.string ⟨#[]⟩), 1, 16) := by kernel_rfl

def spanS (s : ByteArray) (x : Nat × Nat) : Value := .string (s.extract x.1 x.2)

set_option maxRecDepth 100000 in
set_option maxHeartbeats 4000000 in
theorem zzFields_any (s : ByteArray) (hs : s.size ≤ 4294967296) (w : World) :
    Calls Tryz.prog 32 #[.string s] w fun e w' => ∃ v, e = .returned v ∧ w'.ownsRow w.heap.size 9 1 v (fieldsZ s).length ((fieldsZ s).map Value.string) ∧ Below w.heap.size w w' := by
  have hGF : (fieldsZ s).map Value.string = (Lib.spansOfP spaceZ s).map (spanS s) := by
    unfold fieldsZ Lib.goFieldsP
    rw [List.map_map]
    rfl
  have hGL : (fieldsZ s).length = (Lib.spansOfP spaceZ s).length := by
    unfold fieldsZ Lib.goFieldsP
    rw [List.length_map]
  rw [hGF, hGL]
  clear hGF hGL
  obtain ⟨i0, hi, hz0, hz1, hz2⟩ := info_parts info_string
  go_enter Tryz.func32, Tryz.ntmps32
  go_wp2
  go_loopg [3, 4] s.size (fun gf s3 s4 wx => ∃ (pos : Nat) (st : Option Nat) (acc : List (Nat × Nat)) (z : Int), s4 = .int .i64 z ∧ (st = none → z < 0) ∧ (∀ a, st = some a → z = (a : Int)) ∧ -9223372036854775808 ≤ z ∧
      wx.ownsRow w.heap.size 9 1 s3 acc.length (acc.map (spanS s)) ∧ wx.heap[w.heap.size]? = some (.stringIter s pos) ∧ Below w.heap.size w wx ∧
      Hid (Lib.spansFromP spaceZ s gf pos st acc = Lib.spansFromP spaceZ s s.size 0 none []) ∧ s.size ≤ pos + gf ∧ pos ≤ s.size ∧ acc.length ≤ pos ∧ (∀ a, st = some a → a < pos))
  case atStart =>
    exact ⟨0, none, [], -1, rfl, fun _ => by omega, (fun a h => by cases h), by omega, World.ownsRow_nil _ _ _ _, World.iter_heap w s 0, (Below.refl _ _).alloc (Nat.le_refl _) _, Lib.hid rfl, by omega, Nat.zero_le _, Nat.le_refl _, (fun a h => by cases h)⟩
  case round =>
    obtain ⟨pos, st, acc, z, rfl, hzn, hzs, hzl, hown, hit, hbw, HG, hfu, hps, hal, hst⟩ := hrel
    by_cases hlt : pos < s.size
    · obtain ⟨g', rfl⟩ : ∃ g', gk = g' + 1 := ⟨gk - 1, by omega⟩
      have hnx : ∀ ty, (Instr.next (.pointer (some ⟨w.heap.size, 0, none⟩)) true ty).run Tryz.prog wr = _ := fun ty => Lib.run_next_any_at wr w.heap.size s pos ty hit hlt
      have hwd := Lib.width_pos s pos
      have hwn : pos + (Utf8.decode s pos).2 ≤ s.size := by
        have := Lib.decodeN_le_n' (s.size - pos) (s.get! pos).toNat (s.get! (pos + 1)).toNat (s.get! (pos + 2)).toNat (s.get! (pos + 3)).toNat (by omega)
        rw [← Lib.decode_at] at this
        omega
      have hrl := Lib.rune_le s pos
      have hG := HG.out
      simp only [Lib.spansFromP, hlt, if_true] at hG
      generalize (Utf8.decode s pos).1 = R at *
      generalize (Utf8.decode s pos).2 = K at *
      have hit2 := Lib.iterAt_heap wr w.heap.size s pos (pos + K) hit
      have hbw2 := Lib.below_iterAt hbw (k := w.heap.size) (Nat.le_refl _) s (pos + K)
      have hown2 := own_iterAt hown hit (pos + K)
      obtain ⟨W, hWd⟩ : ∃ W, wr.iterAt w.heap.size s (pos + K) = W := ⟨_, rfl⟩
      rw [hWd] at hnx hit2 hbw2 hown2
      have HS := Lib.hid (space_any R W)
      cases hsp : spaceZ R
      · rw [hsp] at hG HS
        simp only [Bool.false_eq_true, if_false] at hG
        have HG2 := Lib.hid hG
        clear hown hit hbw HG hG
        cases st with
        | none =>
          have hz0' : z < 0 := hzn rfl
          go_wp2_with (go_at_call 52; go_must (refine (HS.out).mono ?_); rintro e W' ⟨rfl, q, rfl⟩)
          go_roundg g'
          case measure => omega
          case rel => exact ⟨pos + K, some pos, acc, pos, rfl, (fun h => by cases h), fun a h => by cases h; rfl, by omega, own_drewN hown2 q, hit2, pw_below_drewN hbw2 q, HG2, by omega, hwn, by omega, fun a h => by cases h; omega⟩
        | some a =>
          have hza : z = (a : Int) := hzs a rfl
          subst hza
          go_wp2_with (go_at_call 52; go_must (refine (HS.out).mono ?_); rintro e W' ⟨rfl, q, rfl⟩)
          go_roundg g'
          case measure => omega
          case rel => exact ⟨pos + K, some a, acc, a, rfl, (fun h => by cases h), fun b h => by cases h; rfl, by omega, own_drewN hown2 q, hit2, pw_below_drewN hbw2 q, HG2, by omega, hwn, by omega, fun b h => by cases h; have := hst a rfl; omega⟩
      · rw [hsp] at hG HS
        simp only [if_true] at hG
        have HG2 := Lib.hid hG
        clear hown hit hbw HG hG
        cases st with
        | none =>
          have hz0' : z < 0 := hzn rfl
          go_wp2_with (go_at_call 52; go_must (refine (HS.out).mono ?_); rintro e W' ⟨rfl, q, rfl⟩)
          go_roundg g'
          case measure => omega
          case rel => exact ⟨pos + K, none, acc, z, rfl, fun _ => hz0', (fun a h => by cases h), hzl, own_drewN hown2 q, hit2, pw_below_drewN hbw2 q, HG2, by omega, hwn, by omega, (fun a h => by cases h)⟩
        | some a =>
          have hza : z = (a : Int) := hzs a rfl
          subst hza
          have hapos := hst a rfl
          have hz : w.heap.size < W.heap.size := (Array.getElem?_eq_some_iff.1 hit2).1
          go_wp2_with fail
          refine (HS.out).mono ?_
          rintro e W' ⟨rfl, q, rfl⟩
          have hown3 := own_drewN hown2 q
          have hbw3 := pw_below_drewN hbw2 q
          have hit3 : (W.drewN q).heap[w.heap.size]? = some (.stringIter s (pos + K)) := hit2
          have hz3 : w.heap.size < (W.drewN q).heap.size := hz
          clear hown2 hbw2 hit2 hz
          generalize W.drewN q = W3 at *
          go_wp2_with (at_builtin; refine wpList_append_own _ rfl _ _ 22 rfl w.heap.size 9 i0 (.string ⟨#[]⟩) 1 16 Tryz.underlying22 hi hz0 hz1 hz2 rfl (by decide) _ _ _ rfl (hown3.alloc _) ⟨W3.heap.size, 0, none⟩ 1 1 [_] rfl rfl (one_new W3 _ _) (by intro u hu; simp at hu; subst hu; rfl) (by unfold maxLen; omega) (by omega) (by simp; omega) ?_; intro v' w1 hown' hgrow _)
          obtain ⟨hit4, hbw4⟩ := low_step _ hbw3 hit3 hown3 hgrow
          have hown4 : w1.ownsRow w.heap.size 9 1 v' (acc ++ [(a, pos)]).length ((acc ++ [(a, pos)]).map (spanS s)) := by
            rw [List.length_append, List.map_append]
            exact hown'
          clear hown' hgrow hown3 hit3 hbw3
          go_roundg g'
          case measure => omega
          case rel => exact ⟨pos + K, none, acc ++ [(a, pos)], -1, rfl, fun _ => by omega, (fun a h => by cases h), by omega, hown4, hit4, hbw4, HG2, by omega, hwn, by simp; omega, (fun a h => by cases h)⟩
    · have hnx := fun ty => run_next_end_at (P := Tryz.prog) wr w.heap.size s pos ty hit hlt
      have hend : Lib.spansOfP spaceZ s = Lib.closeSpans s (acc, st) := by
        have := HG.out
        rw [Lib.spansFromP_end _ _ _ _ _ _ hlt] at this
        unfold Lib.spansOfP
        rw [← this]
      have hz3 : w.heap.size < wr.heap.size := (Array.getElem?_eq_some_iff.1 hit).1
      cases st with
      | none =>
        have hz0' : z < 0 := hzn rfl
        have hE : Lib.spansOfP spaceZ s = acc := hend
        have HE := Lib.hid hE
        clear HG hend hE
        go_wp2_with fail
        go_ret
        refine ⟨_, rfl, ?_, hbw⟩
        rw [HE.out]
        exact hown
      | some a =>
        have hza : z = (a : Int) := hzs a rfl
        subst hza
        have hapos := hst a rfl
        have hE : Lib.spansOfP spaceZ s = acc ++ [(a, s.size)] := hend
        have HE := Lib.hid hE
        clear HG hend hE
        go_wp2_with (at_builtin; refine wpList_append_own _ rfl _ _ 22 rfl w.heap.size 9 i0 (.string ⟨#[]⟩) 1 16 Tryz.underlying22 hi hz0 hz1 hz2 rfl (by decide) _ _ _ rfl (hown.alloc _) ⟨wr.heap.size, 0, none⟩ 1 1 [_] rfl rfl (one_new wr _ _) (by intro u hu; simp at hu; subst hu; rfl) (by unfold maxLen; omega) (by omega) (by simp; omega) ?_; intro v' w1 hown' hgrow _)
        obtain ⟨hit4, hbw4⟩ := low_step _ hbw hit hown hgrow
        go_ret
        refine ⟨_, rfl, ?_, hbw4⟩
        rw [HE.out, List.length_append, List.map_append]
        exact hown'

end Go.Proofs.YtikgnpachlgakaaGreatDoor.Cron
