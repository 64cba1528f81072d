/- What cron's zzLower answers: the runes of a text one after another, each in lower case as far as zzLower goes. -/
import Derived.Test.YtikgnpachlgakaaDoorBase
import Derived.Lib.OthersKept
import Derived.Lib.AppendStr
import Derived.Lib.TrimU
import Derived.Deep.LoopGhost
import Derived.Deep.DeepMust
import Derived.Laws.IdiomStrings
import Derived.Laws.Cover4
import Derived.Laws.BytesString
import Derived.Shelf.Strings.FieldsFuncAny
namespace Go.Proofs.YtikgnpachlgakaaDoor.Cron
open Go Go.RowKit Go.Lib
set_option linter.unusedVariables false

/-- a rune in lower case, as bytes -/
def lowRune (r : Nat) : List UInt8 :=
  if 65 ≤ r ∧ r ≤ 90 then [UInt8.ofNat (r + 32)] else if r = 304 then [105] else if r = 8490 then [107] else (Utf8.encode (r : Int)).data.toList

/-- the runes from a place on -/
def lowGo (s : ByteArray) : Nat → Nat → List UInt8
  | 0, _ => []
  | f + 1, pos => if pos < s.size then lowRune (Utf8.decode s pos).1 ++ lowGo s f (pos + (Utf8.decode s pos).2) else []

def lowS (s : ByteArray) : List UInt8 := lowGo s s.size 0

theorem lowGo_end (s : ByteArray) (f pos : Nat) (h : ¬ pos < s.size) : lowGo s f pos = [] := by
  cases f with
  | zero => rfl
  | succ f => rw [lowGo, if_neg h]

theorem info_byte : (Tryd.prog.info? 5).map (fun i => (i.zero, i.size, i.bytes)) = some (some (.int .u8 0), 1, 1) := by kernel_rfl

def cells8 (l : List UInt8) : List Value := l.map fun b => Value.int .u8 b.toNat

theorem cells8_str (s : ByteArray) : strCells s = cells8 s.data.toList := rfl
theorem cells8_append (a b : List UInt8) : cells8 (a ++ b) = cells8 a ++ cells8 b := by simp [cells8]

theorem one_new (w : World) (x : Value) (t : TypeId) : ∀ j u, [x][j]? = some u → (w.alloc (.cells #[x] t)).cell? ((⟨w.heap.size, 0, none⟩ : Addr).add j) = some u := by
  intro j u hj
  match j, hj with
  | 0, hj => simp at hj; subst hj; simp [Addr.add]
  | (j + 1), hj => simp at hj

theorem run_rune_string (w : World) (r : Nat) : (convert 21 9 (.int .i32 (r : Int))).run Tryd.prog w = .ok (.string (Utf8.encode (r : Int))) w := by
  simp [convert, run_underlying Tryd.underlying21, run_underlying Tryd.underlying9, Conv.intToString]

theorem conv_own {w : World} {B : Nat} {v : Value} {l : List UInt8} (h : w.ownsRow B 5 1 v l.length (cells8 l)) : (convert 119 9 v).run Tryd.prog w = .ok (.string ⟨l.toArray⟩) w := by
  rcases h.2 with ⟨rfl, h0⟩ | ⟨g, cap, cur, rfl, hb, hg, hle, hcap, hsz, ht⟩
  · have : l = [] := List.length_eq_zero_iff.1 h0
    subst this
    rw [run_convert_bytes_string w _ _ _ none 0 0 Tryd.underlying119 Tryd.underlying5 Tryd.underlying9]
    rfl
  · exact run_convert_bytes_back w _ _ _ ⟨g, 0, none⟩ cap l Tryd.underlying119 Tryd.underlying5 Tryd.underlying9 (fun j hj => h.cells (g := g) rfl j _ (by simp [cells8, hj]))

theorem low_step {w W w1 : World} {v : Value} {n : Nat} {xs : List Value} {s : ByteArray} {p : Nat} {e : TypeId} (o : Obj) (hb : Below w.heap.size w W) (hit : W.heap[w.heap.size]? = some (.stringIter s p)) (hown : W.ownsRow w.heap.size e 1 v n xs)
    (hgrow : (W.alloc o).grownBy w1 v.ownBlock) : w1.heap[w.heap.size]? = some (.stringIter s p) ∧ Below w.heap.size w w1 := by
  have hlt : w.heap.size < W.heap.size := (Array.getElem?_eq_some_iff.1 hit).1
  refine ⟨?_, ?_⟩
  · rw [hgrow.block w.heap.size (by simp; omega) (own_ne_iter hown hit), heap_alloc_old W o hlt]
    exact hit
  · exact (hb.alloc hb.size o).grown hgrow (by simp; omega) (fun k hk => (hown.lt k hk).1)

theorem low_step0 {w W w1 : World} {v : Value} {n : Nat} {xs : List Value} {s : ByteArray} {p : Nat} {e : TypeId} (hb : Below w.heap.size w W) (hit : W.heap[w.heap.size]? = some (.stringIter s p)) (hown : W.ownsRow w.heap.size e 1 v n xs)
    (hgrow : W.grownBy w1 v.ownBlock) : w1.heap[w.heap.size]? = some (.stringIter s p) ∧ Below w.heap.size w w1 := by
  have hlt : w.heap.size < W.heap.size := (Array.getElem?_eq_some_iff.1 hit).1
  refine ⟨?_, ?_⟩
  · rw [hgrow.block w.heap.size hlt (own_ne_iter hown hit)]
    exact hit
  · exact hb.grown hgrow (by omega) (fun k hk => (hown.lt k hk).1)

set_option maxRecDepth 100000 in
set_option maxHeartbeats 4000000 in
theorem zzLower_any (s : ByteArray) (hs : s.size ≤ 4294967296) (w : World) :
    Calls Tryd.prog 73 #[.string s] w fun e w' => e = .returned (.string ⟨(lowS s).toArray⟩) ∧ Below w.heap.size w w' := by
  obtain ⟨i0, hi, hz0, hz1, hz2⟩ := info_parts info_byte
  go_enter Tryd.func73, Tryd.ntmps73
  go_wp2
  go_loopg [3] s.size (fun gf s3 wx => ∃ (pos : Nat) (acc : List UInt8), wx.ownsRow w.heap.size 5 1 s3 acc.length (cells8 acc) ∧ wx.heap[w.heap.size]? = some (.stringIter s pos) ∧ Below w.heap.size w wx ∧
      Hid (acc ++ lowGo s gf pos = lowS s) ∧ s.size ≤ pos + gf ∧ pos ≤ s.size ∧ acc.length ≤ 4 * pos)
  case atStart =>
    exact ⟨0, [], World.ownsRow_nil _ _ _ _, World.iter_heap w s 0, (Below.refl _ _).alloc (Nat.le_refl _) _, Lib.hid rfl, by omega, Nat.zero_le _, by simp⟩
  case round =>
    obtain ⟨pos, acc, hown, hit, hbw, HG, hfu, hps, hal⟩ := hrel
    by_cases hlt : pos < s.size
    · obtain ⟨g', rfl⟩ : ∃ g', gk = g' + 1 := ⟨gk - 1, by omega⟩
      have hnx : ∀ ty, (Instr.next (.pointer (some ⟨w.heap.size, 0, none⟩)) true ty).run Tryd.prog wr = _ := fun ty => Lib.run_next_any_at wr w.heap.size s pos ty hit hlt
      have hwd := Lib.width_pos s pos
      have hwn : pos + (Utf8.decode s pos).2 ≤ s.size := by
        have := Lib.decodeN_le_n' (s.size - pos) (s.get! pos).toNat (s.get! (pos + 1)).toNat (s.get! (pos + 2)).toNat (s.get! (pos + 3)).toNat (by omega)
        rw [← Lib.decode_at] at this
        omega
      have hrl := Lib.rune_le s pos
      have hG := HG.out
      rw [lowGo, if_pos hlt] at hG
      generalize (Utf8.decode s pos).1 = R at *
      generalize (Utf8.decode s pos).2 = K at *
      have hit2 := Lib.iterAt_heap wr w.heap.size s pos (pos + K) hit
      have hbw2 := Lib.below_iterAt hbw (k := w.heap.size) (Nat.le_refl _) s (pos + K)
      have hown2 := own_iterAt hown hit (pos + K)
      obtain ⟨W, hWd⟩ : ∃ W, wr.iterAt w.heap.size s (pos + K) = W := ⟨_, rfl⟩
      rw [hWd] at hnx hit2 hbw2 hown2
      have HG2 := Lib.hid hG
      clear hown hit hbw HG hG
      have hne := own_ne_iter hown2 hit2
      have hz : w.heap.size < W.heap.size := (Array.getElem?_eq_some_iff.1 hit2).1
      by_cases c1 : 65 ≤ R ∧ R ≤ 90
      · obtain ⟨c1a, c1b⟩ := c1
        have hc : lowRune R = [UInt8.ofNat (R + 32)] := by unfold lowRune; rw [if_pos ⟨c1a, c1b⟩]
        rw [hc] at HG2
        go_wp2_with (at_builtin; refine wpList_append_own _ rfl _ _ 119 rfl w.heap.size 5 i0 (.int .u8 0) 1 1 Tryd.underlying119 hi hz0 hz1 hz2 rfl (by decide) _ _ _ rfl (hown2.alloc _) ⟨W.heap.size, 0, none⟩ 1 1 [_] rfl rfl (one_new W _ _) (by intro u hu; simp at hu; subst hu; rfl) (by unfold maxLen; omega) (by omega) (by simp; omega) ?_; intro v' w1 hown' hgrow _)
        obtain ⟨hit3, hbw3⟩ := low_step _ hbw2 hit2 hown2 hgrow
        have hown3 : w1.ownsRow w.heap.size 5 1 v' (acc ++ [UInt8.ofNat (R + 32)]).length (cells8 (acc ++ [UInt8.ofNat (R + 32)])) := by
          rw [List.length_append, cells8_append]
          have hv : (R : Int) - 65 + 97 = ((UInt8.ofNat (R + 32)).toNat : Int) := by
            rw [UInt8.toNat_ofNat']
            omega
          rw [hv] at hown'
          exact hown'
        clear hown' hgrow hown2 hit2 hbw2 hne
        go_roundg g'
        case measure => omega
        case rel => exact ⟨pos + K, acc ++ [UInt8.ofNat (R + 32)], hown3, hit3, hbw3, Lib.hid (by rw [List.append_assoc]; exact HG2.out), by omega, hwn, by simp; omega⟩
      · have hn1 : ¬ ((65 : Int) ≤ R ∧ (R : Int) ≤ 90) := by omega
        have hR1 : (65 : Int) ≤ R → 90 < (R : Int) := by omega
        by_cases c2 : R = 304
        · subst c2
          have hc : lowRune 304 = [105] := by unfold lowRune; rw [if_neg (by omega), if_pos rfl]
          rw [hc] at HG2
          go_wp2_with (at_builtin; refine wpList_append_own _ rfl _ _ 119 rfl w.heap.size 5 i0 (.int .u8 0) 1 1 Tryd.underlying119 hi hz0 hz1 hz2 rfl (by decide) _ _ _ rfl (hown2.alloc _) ⟨W.heap.size, 0, none⟩ 1 1 [_] rfl rfl (one_new W _ _) (by intro u hu; simp at hu; subst hu; rfl) (by unfold maxLen; omega) (by omega) (by simp; omega) ?_; intro v' w1 hown' hgrow _)
          obtain ⟨hit3, hbw3⟩ := low_step _ hbw2 hit2 hown2 hgrow
          have hown3 : w1.ownsRow w.heap.size 5 1 v' (acc ++ [105]).length (cells8 (acc ++ [105])) := by
            rw [List.length_append, cells8_append]
            exact hown'
          clear hown' hgrow hown2 hit2 hbw2 hne
          go_roundg g'
          case measure => omega
          case rel => exact ⟨pos + K, acc ++ [105], hown3, hit3, hbw3, Lib.hid (by rw [List.append_assoc]; exact HG2.out), by omega, hwn, by simp; omega⟩
        · by_cases c3 : R = 8490
          · subst c3
            have hc : lowRune 8490 = [107] := by unfold lowRune; rw [if_neg (by omega), if_neg (by omega), if_pos rfl]
            rw [hc] at HG2
            go_wp2_with (at_builtin; refine wpList_append_own _ rfl _ _ 119 rfl w.heap.size 5 i0 (.int .u8 0) 1 1 Tryd.underlying119 hi hz0 hz1 hz2 rfl (by decide) _ _ _ rfl (hown2.alloc _) ⟨W.heap.size, 0, none⟩ 1 1 [_] rfl rfl (one_new W _ _) (by intro u hu; simp at hu; subst hu; rfl) (by unfold maxLen; omega) (by omega) (by simp; omega) ?_; intro v' w1 hown' hgrow _)
            obtain ⟨hit3, hbw3⟩ := low_step _ hbw2 hit2 hown2 hgrow
            have hown3 : w1.ownsRow w.heap.size 5 1 v' (acc ++ [107]).length (cells8 (acc ++ [107])) := by
              rw [List.length_append, cells8_append]
              exact hown'
            clear hown' hgrow hown2 hit2 hbw2 hne
            go_roundg g'
            case measure => omega
            case rel => exact ⟨pos + K, acc ++ [107], hown3, hit3, hbw3, Lib.hid (by rw [List.append_assoc]; exact HG2.out), by omega, hwn, by simp; omega⟩
          · have hc : lowRune R = (Utf8.encode (R : Int)).data.toList := by unfold lowRune; rw [if_neg c1, if_neg c2, if_neg c3]
            rw [hc] at HG2
            have hel := encode_size_le (R : Int)
            have hcv := fun w' : World => run_rune_string w' R
            generalize Utf8.encode (R : Int) = E at *
            have hem : E.data.toList.length = E.size := Array.length_toList
            have hc2 : ((R : Int) == 304) = false := by simpa using (by omega : ¬ (R : Int) = 304)
            have hc3 : ((R : Int) == 8490) = false := by simpa using (by omega : ¬ (R : Int) = 8490)
            by_cases c4 : 65 ≤ R
            · have c5 : ¬ R ≤ 90 := by omega
              go_wp2_with (at_builtin; refine wpList_append_own_string _ rfl _ _ 119 9 rfl w.heap.size 5 i0 Tryd.underlying119 Tryd.underlying9 hi hz0 hz1 hz2 _ _ _ rfl hown2 _ rfl (by unfold maxLen; omega) (by omega) (by omega) ?_; intro v' w1 hown' hgrow _)
              obtain ⟨hit3, hbw3⟩ := low_step0 hbw2 hit2 hown2 hgrow
              have hown3 : w1.ownsRow w.heap.size 5 1 v' (acc ++ E.data.toList).length (cells8 (acc ++ E.data.toList)) := by
                rw [List.length_append, cells8_append, ← cells8_str, hem]
                exact hown'
              clear hown' hgrow hown2 hit2 hbw2 hne
              go_roundg g'
              case measure => omega
              case rel => exact ⟨pos + K, acc ++ E.data.toList, hown3, hit3, hbw3, Lib.hid (by rw [List.append_assoc]; exact HG2.out), by omega, hwn, by rw [List.length_append]; omega⟩
            · go_wp2_with (at_builtin; refine wpList_append_own_string _ rfl _ _ 119 9 rfl w.heap.size 5 i0 Tryd.underlying119 Tryd.underlying9 hi hz0 hz1 hz2 _ _ _ rfl hown2 _ rfl (by unfold maxLen; omega) (by omega) (by omega) ?_; intro v' w1 hown' hgrow _)
              obtain ⟨hit3, hbw3⟩ := low_step0 hbw2 hit2 hown2 hgrow
              have hown3 : w1.ownsRow w.heap.size 5 1 v' (acc ++ E.data.toList).length (cells8 (acc ++ E.data.toList)) := by
                rw [List.length_append, cells8_append, ← cells8_str, hem]
                exact hown'
              clear hown' hgrow hown2 hit2 hbw2 hne
              go_roundg g'
              case measure => omega
              case rel => exact ⟨pos + K, acc ++ E.data.toList, hown3, hit3, hbw3, Lib.hid (by rw [List.append_assoc]; exact HG2.out), by omega, hwn, by rw [List.length_append]; omega⟩
    · have hpe : pos = s.size := by omega
      have hnx := fun ty => run_next_end_at (P := Tryd.prog) wr w.heap.size s pos ty hit hlt
      have hacc : acc = lowS s := by
        have := HG.out
        rw [lowGo_end _ _ _ hlt, List.append_nil] at this
        exact this
      have hcv := conv_own hown
      rw [hacc] at hcv
      clear HG hown
      go_wp2_with fail
      go_ret
      exact ⟨rfl, hbw⟩

end Go.Proofs.YtikgnpachlgakaaDoor.Cron
