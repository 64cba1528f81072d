/- Lemmas and walks on the way to the law, merged by wip/tools/pack.py: GetField, SpecNumber, SpecEnds, ItemMid, Sets, CronItem. Conditions: none. -/
import Derived.Test.YtmecbmgfacpecaaGreatDoorGrG
import Derived.Test.YtmecbmgfacpecaaGreatDoorGrF
import Derived.Laws.OwnMore
import Derived.Deep.DeepMust
import Derived.Test.YtmecbmgfacpecaaGreatDoorPrA
import Derived.Test.YtmecbmgfacpecaaGreatDoorPrB
import Derived.Laws.Rows
import Derived.Laws.Tables
import Derived.Laws.ResultCell
import Derived.Laws.CopyOwn
import Derived.ChangeKeysEq
import Derived.Deep.DeepCutAuto
import Derived.Deep.QuietTactic
import Derived.Deep.RegionWith
import Derived.BigQuiet
import Derived.Outline
namespace Go.Proofs.YtmecbmgfacpecaaGreatDoor.Cron
open Go Go.RowKit Go.Proofs.YtmecbmgfacpecaaGreatDoor.Text Go.Proofs.YtmecbmgfacpecaaGreatDoor.Bits
set_option linter.unusedVariables false

def fieldGo (r : List UInt8 → Option Nat) : List (List UInt8) → Nat → Option Nat
  | [], b => some b
  | x :: xs, b => match r x with
    | none => none
    | some c => fieldGo r xs (b ||| c)

def fieldS (val : List UInt8 → Option Nat) (lo hi : Nat) (l : List UInt8) : Option Nat := fieldGo (rangeS val lo hi) (partsL 44 l) 0

theorem rangeS_lt {val : List UInt8 → Option Nat} {lo hi : Nat} (h : hi ≤ 62) {l : List UInt8} {b : Nat} (e : rangeS val lo hi l = some b) : b < 2 ^ 64 := by
  unfold rangeS at e
  split at e
  · cases e
  · split at e
    · cases e
    · unfold rangeFin at e
      split at e
      · cases e
      · rename_i k b' st _
        unfold bitsOf at e
        split at e
        · cases e
        · split at e
          · cases e
          · split at e
            · cases e
            · split at e
              · cases e
              · injection e with e
                rw [← e]
                exact Nat.or_lt_two_pow (steps_lt _ _ _) (by split <;> decide)

def FieldAnswers (w : World) (r : Option Nat) (e : Ending) (w' : World) : Prop :=
  (match r with
    | some b => e = .returned (.tuple #[.int .u64 b, .nilIface])
    | none => ∃ (n : Int) (t : TypeId) (x : Value), e = .returned (.tuple #[.int .u64 n, .iface t x])) ∧ Below w.heap.size w w'

theorem comma_any (x : Nat) (W : World) : Calls Tryz.prog 151 #[.int .i32 (x : Int)] W fun e w' => e = .returned (.bool (x == 44)) ∧ Below W.heap.size W w' := by
  go_enter Tryz.func151, Tryz.ntmps151
  go_wp2
  go_ret
  refine ⟨?_, Below.refl _ _⟩
  have : ((x : Int) == 44) = (x == 44) := by
    rw [Bool.eq_iff_iff]
    simp
    omega
  simp [this]

theorem comma_pays (w : World) : Go.Proofs.PredGrows Tryz.prog 151 #[] (fun r => r == 44) w := fun W x hx hb => comma_any x W

theorem fieldsFunc_any (s : ByteArray) (hs : s.size ≤ 4294967296) (w : World) :
    Calls Tryz.prog 150 #[.string s, .func (.func 151) #[] #[]] w fun e w' => ∃ g, e = .returned (.slice (some ⟨g, 0, none⟩) (partsL 44 s.data.toList).length (partsL 44 s.data.toList).length) ∧
      Texts w' g (partsL 44 s.data.toList).length (partsL 44 s.data.toList).length ((partsL 44 s.data.toList).map ba) ∧ Below w.heap.size w w' := by
  have hp := goFields_parts 44 (by decide) s
  have hc : (44 : UInt8).toNat = 44 := rfl
  rw [hc] at hp
  have hl : (Lib.goFieldsP (fun r => r == 44) s).length = (partsL 44 s.data.toList).length := by rw [hp, List.length_map]
  refine (Tryz.strings_FieldsFunc_grows 151 #[] (enters_of Tryz.func151 (by kernel_rfl) rfl) (fun r => r == 44) s w hs (comma_pays w)).mono ?_
  rintro e w' ⟨g, rfl, hg, hown, hb⟩
  rw [hl] at hown ⊢
  have hlt := (hown.lt g rfl).2
  refine ⟨g, rfl, ⟨by rw [List.length_map], Nat.le_refl _, hlt, fun i x hx => ?_⟩, hb⟩
  have hi : i < (partsL 44 s.data.toList).length := by
    have := (List.getElem?_eq_some_iff.1 hx).1
    rwa [List.length_map] at this
  rw [hown.cellAt i (by omega), hp, List.getElem?_map, hx]
  rfl

set_option maxRecDepth 100000 in
set_option maxHeartbeats 1000000 in
theorem getFieldA (m : Option Nat) (val : List UInt8 → Option Nat) (Inv : World → Prop) (hR : Reads m val Inv) (lo hi : Nat) (s : ByteArray) (hs : s.size ≤ 4294967296) (h1 : lo ≤ hi) (h2 : hi ≤ 62) (w : World) (hI : Inv w) :
    Calls Tryz.prog 105 #[.string s, .agg #[.int .u64 lo, .int .u64 hi, .map m]] w (FieldAnswers w (fieldS val lo hi s.data.toList)) := by
  unfold fieldS
  have HF := Lib.hid (fun w' => fieldsFunc_any s hs w')
  have hsz : ∀ x ∈ partsL 44 s.data.toList, (ba x).size ≤ 4294967296 := by
    intro x hx
    have := splitL_size 44 _ x (List.mem_filter.1 hx |>.1)
    rw [← size_list] at this
    rw [ba_size]
    omega
  have hlen : (partsL 44 s.data.toList).length ≤ 4294967297 := by
    have := List.length_filter_le (· ≠ []) (splitL 44 s.data.toList)
    have h2 := splitL_len 44 s.data.toList
    rw [← size_list] at h2
    unfold partsL
    omega
  have HSZ := Lib.hid hsz
  clear hsz
  generalize partsL 44 s.data.toList = ps at *
  go_enter Tryz.func105, Tryz.ntmps105
  go_wp2_with (go_at_call 150; go_must (refine (HF.out _).mono ?_); rintro e w1 ⟨g, rfl, ht, hb1⟩)
  have hbx : w1.heap[w.heap.size]? = some (.cells #[.int .u64 lo, .int .u64 hi, .map m] 185 (0, 0)) := (hb1.block w.heap.size (by simp)).trans (heap_alloc_new w _)
  have hB1 : Below w.heap.size w w1 := ((Below.refl _ _).alloc (Nat.le_refl _) _).trans (hb1.mono (by simp))
  have HT := Lib.hid ht
  have HX0 := Lib.hid (show w1.cell? ⟨w.heap.size, 0, none⟩ = some (.int .u64 lo) from cell_of_row _ _ _ _ _ _ hbx)
  have HX1 := Lib.hid (show w1.cell? ⟨w.heap.size, 1, none⟩ = some (.int .u64 hi) from cell_of_row _ _ _ _ _ _ hbx)
  have HX2 := Lib.hid (show w1.cell? ⟨w.heap.size, 2, none⟩ = some (.map m) from cell_of_row _ _ _ _ _ _ hbx)
  have hz1 : w.heap.size < w1.heap.size := by have := hb1.size; simp at this; omega
  have HB1 := Lib.hid hB1
  clear hbx hB1 hb1 ht HF
  go_loopw [6, 16] (fun v6 v16 wr => ∃ i acc : Nat, v16 = .int .i64 i ∧ v6 = .int .u64 acc ∧ i ≤ ps.length ∧ acc < 2 ^ 64 ∧ Hid (fieldGo (rangeS val lo hi) (ps.drop i) acc = fieldGo (rangeS val lo hi) ps 0) ∧ Below w1.heap.size w1 wr) (fun _ v16 _ => ps.length - (intOf v16).toNat)
  case atStart => exact ⟨0, 0, rfl, rfl, by omega, by decide, Lib.hid rfl, Below.refl _ _⟩
  case round =>
    obtain ⟨i, acc, rfl, rfl, hil, hacc, HG, hbr⟩ := hrel
    have hx0 := (hbr.cell (p := ⟨w.heap.size, 0, none⟩) hz1).trans HX0.out
    have hx1 := (hbr.cell (p := ⟨w.heap.size, 1, none⟩) hz1).trans HX1.out
    have hx2 := (hbr.cell (p := ⟨w.heap.size, 2, none⟩) hz1).trans HX2.out
    have hBr := below_of_le HB1.out hbr
    have hIr : Inv wr := hR.keeps hI hBr
    by_cases hlt : i < ps.length
    · have hc : wr.cell? ⟨g, i, none⟩ = some (.string (ba ps[i])) := (HT.out.below hbr).at_ i _ (by simp [hlt])
      have hdr : ps.drop i = ps[i] :: ps.drop (i + 1) := List.drop_eq_getElem_cons hlt
      have HGo := HG.out
      rw [hdr] at HGo
      have hRA := rangeA m val Inv hR lo hi (ba ps[i]) (HSZ.out _ (List.getElem_mem hlt)) h1 h2 wr hIr
      rw [ba_list] at hRA
      cases hr : rangeS val lo hi ps[i] with
      | none =>
        have HN : Hid (fieldGo (rangeS val lo hi) ps 0 = none) := Lib.hid (by rw [← HGo, fieldGo, hr])
        rw [hr] at hRA
        have HRA := Lib.hid hRA
        clear hRA hr HGo hdr
        go_wp2_with (go_at_call 152; go_must (refine HRA.out.mono ?_); rintro e w2 ⟨⟨t, x, rfl⟩, hb2⟩)
        go_ret2
        refine ⟨?_, below_of_le hBr hb2⟩
        rw [HN.out]
        exact ⟨_, t, x, rfl⟩
      | some b =>
        have hb64 := rangeS_lt h2 hr
        have HN : Hid (fieldGo (rangeS val lo hi) (ps.drop (i + 1)) (acc ||| b) = fieldGo (rangeS val lo hi) ps 0) := Lib.hid (by rw [← HGo, fieldGo, hr])
        rw [hr] at hRA
        have HRA := Lib.hid hRA
        have hor : bits .or .u64 (acc : Int) (b : Int) = ((acc ||| b : Nat) : Int) := or_u64 hacc hb64
        clear hRA hr HGo hdr
        go_wp2_with (go_at_call 152; go_must (refine HRA.out.mono ?_); rintro e w2 ⟨rfl, hb2⟩)
        go_roundw
        case rel => exact ⟨i + 1, acc ||| b, by go_num, by first | rfl | (simp [hor]), by omega, Nat.or_lt_two_pow hacc hb64, HN, below_of_le hbr hb2⟩
        case measure => simp [intOf]; omega
    · have hie : i = ps.length := by omega
      have HN : Hid (fieldGo (rangeS val lo hi) ps 0 = some acc) := Lib.hid (by rw [← HG.out, hie, List.drop_length]; rfl)
      go_wp2_with fail
      go_ret2
      refine ⟨?_, hBr⟩
      rw [HN.out]
      exact rfl
end Go.Proofs.YtmecbmgfacpecaaGreatDoor.Cron

namespace Go.Proofs.YtmecbmgfacpecaaGreatDoor.Cron
open Go Go.RowKit Go.Proofs.YtmecbmgfacpecaaGreatDoorW.PrintWords Go.Proofs.YtmecbmgfacpecaaGreatDoorW.PrintMore Go.Proofs.YtmecbmgfacpecaaGreatDoor.Pr Go.Proofs.YtmecbmgfacpecaaGreatDoor.Text
set_option linter.unusedVariables false

def Rel (r : Option Nat) (n : Int) : Prop := (∃ m : Nat, r = some m ∧ n = min (m : Int) 1099511627776) ∨ (r = none ∧ n = 1099511627776)

structure ValIs (r : Option Nat) (n v : Int) : Prop where
  lo : 0 ≤ n
  hi : n ≤ 1099511627776
  vs : v = 0 ∨ v = 1 ∨ v = 2
  fine : v = 1 → Rel r n
  bad : v = 0 → r = none ∧ n = 0
  zero : v = 2 → n = 0 → r = some 0

def digitsFold (n : Nat) : List UInt8 → Option Nat
  | [] => some n
  | c :: r => if 48 ≤ c.toNat ∧ c.toNat ≤ 57 then digitsFold (min (10 * n + (c.toNat - 48)) 1099511627776) r else none

theorem digitsFold_le : ∀ (l : List UInt8) (n m : Nat), n ≤ 1099511627776 → digitsFold n l = some m → m ≤ 1099511627776
  | [], n, m, h, e => by injection e with e; omega
  | c :: r, n, m, h, e => by
    unfold digitsFold at e
    split at e
    · exact digitsFold_le r _ m (by omega) e
    · cases e

theorem digitsFold_top : ∀ (l : List UInt8) (m : Nat), digitsFold 1099511627776 l = some m → m = 1099511627776
  | [], m, e => by injection e with e; omega
  | c :: r, m, e => by
    unfold digitsFold at e
    split at e
    · rw [Nat.min_eq_right (by omega)] at e
      exact digitsFold_top r m e
    · cases e

theorem fold_none : ∀ (l : List UInt8) (acc : Nat), digitsFold (min acc 1099511627776) l = none → ∀ u, Lib.parseUint10 acc l ≠ .ok u
  | [], acc, e, u => by cases e
  | c :: r, acc, e, u => by
    unfold digitsFold at e
    unfold Lib.parseUint10
    by_cases h : 48 ≤ c.toNat ∧ c.toNat ≤ 57
    · rw [if_pos h] at e ⊢
      split
      · intro x; cases x
      · split
        · intro x; cases x
        · apply fold_none r
          rw [← e]
          congr 1
          omega
    · rw [if_neg h]
      intro x; cases x

theorem fold_some : ∀ (l : List UInt8) (acc n : Nat), digitsFold (min acc 1099511627776) l = some n → (∃ u, Lib.parseUint10 acc l = .ok u ∧ n = min u 1099511627776) ∨ (Lib.parseUint10 acc l = .range ∧ n = 1099511627776)
  | [], acc, n, e => by
    left
    injection e with e
    exact ⟨acc, rfl, e.symm⟩
  | c :: r, acc, n, e => by
    unfold digitsFold at e
    unfold Lib.parseUint10
    by_cases h : 48 ≤ c.toNat ∧ c.toNat ≤ 57
    · rw [if_pos h] at e ⊢
      split
      · right
        refine ⟨rfl, digitsFold_top r n ?_⟩
        rw [← e]
        congr 1
        omega
      · split
        · right
          refine ⟨rfl, digitsFold_top r n ?_⟩
          rw [← e]
          congr 1
          omega
        · apply fold_some r
          rw [← e]
          congr 1
          omega
    · rw [if_neg h] at e
      cases e

theorem parse_zero : ∀ (l : List UInt8) (acc : Nat), Lib.parseUint10 acc l = .ok 0 → acc = 0 ∧ ∀ c ∈ l, c.toNat = 48
  | [], acc, h => by
    unfold Lib.parseUint10 at h
    injection h with h
    exact ⟨h, by simp⟩
  | c :: r, acc, h => by
    unfold Lib.parseUint10 at h
    split at h
    · split at h
      · cases h
      · split at h
        · cases h
        · have := parse_zero r _ h
          refine ⟨by omega, ?_⟩
          intro x hx
          rcases List.mem_cons.1 hx with rfl | hx
          · omega
          · exact this.2 x hx
    · cases h

theorem mp_plain {c : UInt8} {r : List UInt8} (h43 : c.toNat ≠ 43) (h45 : c.toNat ≠ 45) : mp (c :: r) = match Lib.parseUint10 0 (c :: r) with | .ok u => if u < 9223372036854775808 then some u else none | _ => none := by
  have hm : Lib.parseMag (c :: r) = Lib.parseUint10 0 (c :: r) := by unfold Lib.parseMag; rw [if_neg (by simp)]
  unfold mp Lib.atoiAll
  simp only [h43, h45, or_self, if_false, hm]
  rcases e : Lib.parseUint10 0 (c :: r) with u | _ | _
  · simp only [not_false_eq_true, true_and, false_and, if_false]
    by_cases hu : 9223372036854775808 ≤ u
    · rw [if_pos hu, if_neg (by omega)]
    · rw [if_neg hu, if_pos (by omega)]
      simp
  · rfl
  · rfl

theorem mp_rel {c : UInt8} {r : List UInt8} {n : Nat} (h43 : c.toNat ≠ 43) (h45 : c.toNat ≠ 45) (e : digitsFold 0 (c :: r) = some n) : Rel (mp (c :: r)) n := by
  rw [mp_plain h43 h45]
  rcases fold_some (c :: r) 0 n (by simpa using e) with ⟨u, hu, hn⟩ | ⟨hu, hn⟩
  · rw [hu]
    by_cases h : u < 9223372036854775808
    · left
      exact ⟨u, by simp only [if_pos h], by omega⟩
    · right
      exact ⟨by simp only [if_neg h], by omega⟩
  · rw [hu]
    exact .inr ⟨rfl, by omega⟩

theorem mp_bad {c : UInt8} {r : List UInt8} (h43 : c.toNat ≠ 43) (h45 : c.toNat ≠ 45) (e : digitsFold 0 (c :: r) = none) : mp (c :: r) = none := by
  rw [mp_plain h43 h45]
  have := fold_none (c :: r) 0 (by simpa using e)
  split
  · rename_i u hu; exact absurd hu (this u)
  · rfl

theorem parseMag_bad {r : List UInt8} (e : r = [] ∨ digitsFold 0 r = none) : ∀ u, Lib.parseMag r ≠ .ok u := by
  intro u h
  unfold Lib.parseMag at h
  split at h
  · cases h
  · rename_i hne
    rcases e with e | e
    · exact hne e
    · exact fold_none r 0 (by simpa using e) u h

theorem mp_plus {r : List UInt8} (e : r = [] ∨ digitsFold 0 r = none) : mp (43 :: r) = none := by
  unfold mp
  rw [Lib.atoiAll_plus]
  have := parseMag_bad e
  rcases h : Lib.parseMag r with u | _ | _
  · exact absurd h (this u)
  · rfl
  · rfl

theorem mp_minus {r : List UInt8} (e : r = [] ∨ ¬ ∀ c ∈ r, c.toNat = 48) : mp (45 :: r) = none := by
  unfold mp
  rw [Lib.atoiAll_minus]
  rcases h : Lib.parseMag r with u | _ | _
  rotate_left
  · rfl
  · rfl
  · skip
    unfold Lib.signed
    split
    · rename_i v hv
      have hu : u ≠ 0 := by
        rintro rfl
        unfold Lib.parseMag at h
        split at h
        · cases h
        · rename_i hne
          rcases e with e | e
          · exact hne e
          · exact e (parse_zero r 0 h).2
      simp only at hv
      split at hv
      · cases hv
      · injection hv with hv
        rw [if_neg (by omega)]
    · rfl

theorem parse_of_zero {r : List UInt8} (hr : r ≠ []) (e : digitsFold 0 r = some 0) : Lib.parseMag r = .ok 0 := by
  unfold Lib.parseMag
  rw [if_neg hr]
  rcases fold_some r 0 0 (by simpa using e) with ⟨u, hu, hn⟩ | ⟨_, hn⟩
  · rw [hu, show u = 0 by omega]
  · omega

theorem mp_plus_zero {r : List UInt8} (hr : r ≠ []) (e : digitsFold 0 r = some 0) : mp (43 :: r) = some 0 := by
  unfold mp
  rw [Lib.atoiAll_plus, parse_of_zero hr e]
  rfl

theorem mp_minus_zero {r : List UInt8} (hr : r ≠ []) (e : digitsFold 0 r = some 0) : mp (45 :: r) = some 0 := by
  unfold mp
  rw [Lib.atoiAll_minus, parse_of_zero hr e]
  rfl

def pairOf (r : List UInt8) (v : Int) : Int × Int := if r = [] then (0, 0) else match digitsFold 0 r with
  | some m => ((m : Int), v)
  | none => (0, 0)

theorem isDigit_f (x : Int) : spec_isDigit.f x = some (decide (48 ≤ x ∧ x ≤ 57)) := by
  unfold spec_isDigit.f
  by_cases h : x ≥ 48
  · rw [if_pos h]; simp [show 48 ≤ x from h]
  · rw [if_neg h]; simp [show ¬ 48 ≤ x from h]

theorem number_l0 (s : ByteArray) (hs : s.size ≤ 281474976710655) (v : Int) : ∀ (d k : Nat) (n i : Nat), n ≤ 1099511627776 → i ≤ s.size → s.size - i = d → d < k →
    spec_CronNumber.l0 k s v n (s.size : Int) i = some (match digitsFold n (s.data.toList.drop i) with | some m => ((m : Int), v) | none => (0, 0)) := by
  intro d
  induction d with
  | zero =>
    intro k n i hn hi hd hk
    obtain ⟨k, rfl⟩ : ∃ m, k = m + 1 := ⟨k - 1, by omega⟩
    simp only [spec_CronNumber.l0]
    rw [if_neg (by omega), List.drop_eq_nil_of_le (by rw [← size_list]; omega)]
    rfl
  | succ d ih =>
    intro k n i hn hi hd hk
    obtain ⟨k, rfl⟩ : ∃ m, k = m + 1 := ⟨k - 1, by omega⟩
    have hlt : i < s.data.toList.length := by rw [← size_list]; omega
    have hw : wrap64 ((i : Int) + 1) = ((i + 1 : Nat) : Int) := by rw [wrap_in (by omega) (by omega)]; omega
    simp only [spec_CronNumber.l0]
    rw [if_pos (by omega), if_pos (by omega), if_pos (by omega), bt_list s i hlt, isDigit_f, List.drop_eq_getElem_cons hlt]
    simp only [Option.bind_some]
    rw [digitsFold]
    by_cases h : 48 ≤ (s.data.toList[i]).toNat ∧ (s.data.toList[i]).toNat ≤ 57
    · rw [if_pos h, if_pos (decide_eq_true ⟨by omega, by omega⟩), hw]
      have hv : mn (wrap64 (wrap64 (10 * (n : Int)) + (((s.data.toList[i]).toNat : Int) - 48) % 256)) 1099511627776 = ((min (10 * n + ((s.data.toList[i]).toNat - 48)) 1099511627776 : Nat) : Int) := by
        have e1 : wrap64 (10 * (n : Int)) = 10 * n := wrap_in (by omega) (by omega)
        have e2 : (((s.data.toList[i]).toNat : Int) - 48) % 256 = ((s.data.toList[i]).toNat : Int) - 48 := by omega
        rw [e1, e2, wrap_in (by omega) (by omega)]
        unfold mn
        split <;> omega
      rw [hv]
      exact ih k _ (i + 1) (by omega) (by omega) (by omega) (by omega)
    · rw [if_neg h, decide_eq_false (by omega), if_neg (by decide)]

theorem zeros_l0 (s : ByteArray) (hs : s.size ≤ 281474976710655) : ∀ (d k : Nat) (i : Nat), i ≤ s.size → s.size - i = d → d < k →
    spec_cronZeros.l0 k s (s.size : Int) i = some (decide (∀ c ∈ s.data.toList.drop i, c.toNat = 48)) := by
  intro d
  induction d with
  | zero =>
    intro k i hi hd hk
    obtain ⟨k, rfl⟩ : ∃ m, k = m + 1 := ⟨k - 1, by omega⟩
    simp only [spec_cronZeros.l0]
    rw [if_neg (by omega), List.drop_eq_nil_of_le (by rw [← size_list]; omega)]
    simp
  | succ d ih =>
    intro k i hi hd hk
    obtain ⟨k, rfl⟩ : ∃ m, k = m + 1 := ⟨k - 1, by omega⟩
    have hlt : i < s.data.toList.length := by rw [← size_list]; omega
    have hw : wrap64 ((i : Int) + 1) = ((i + 1 : Nat) : Int) := by rw [wrap_in (by omega) (by omega)]; omega
    simp only [spec_cronZeros.l0]
    rw [if_pos (by omega), if_pos (by omega), if_pos (by omega), bt_list s i hlt, List.drop_eq_getElem_cons hlt]
    by_cases h : (s.data.toList[i]).toNat = 48
    · rw [if_pos (by omega), hw, ih k (i + 1) (by omega) (by omega) (by omega)]
      congr 1
      simp only [List.forall_mem_cons, h, true_and]
    · rw [if_neg (by omega)]
      congr 1
      simp only [List.forall_mem_cons, h, false_and, decide_false]

theorem number_j1 (s : ByteArray) (hs : s.size ≤ 281474976710655) (v : Int) (k : Nat) (hk : s.size + 2 < k) :
    spec_CronNumber.j1 k s v = some (pairOf s.data.toList v) := by
  obtain ⟨k, rfl⟩ : ∃ m, k = m + 1 := ⟨k - 1, by omega⟩
  simp only [spec_CronNumber.j1]
  rw [toList_data]
  by_cases h : s.data.toList = []
  · rw [if_pos h, pairOf, if_pos h]
  · rw [if_neg h, pairOf, if_neg h]
    have := number_l0 s hs v s.size k 0 0 (by omega) (by omega) (by omega) (by omega)
    rw [show ((0 : Nat) : Int) = 0 from rfl, List.drop_zero] at this
    exact this

theorem number_is (s : ByteArray) (hs : s.size ≤ 4294967296) : ∃ k n v, spec_CronNumber.f k s = some (n, v) ∧ ValIs (mp s.data.toList) n v := by
  cases hl : s.data.toList with
  | nil =>
    have h0 : s.size = 0 := by rw [size_list, hl]; rfl
    refine ⟨s.size + 5, 0, 0, ?_, ⟨by omega, by omega, .inl rfl, fun h => by omega, fun _ => ⟨rfl, rfl⟩, fun h => by omega⟩⟩
    unfold spec_CronNumber.f
    rw [if_neg (by omega)]
    simp only [spec_CronNumber.j0, Bool.false_eq_true, if_false]
    rw [number_j1 s (by omega) 1 _ (by omega), hl]; rfl
  | cons c r =>
    have h0 : s.size = r.length + 1 := by rw [size_list, hl]; rfl
    have hb : bt s 0 = (c.toNat : Int) := by
      have := bt_list s 0 (by rw [hl]; simp)
      rw [show ((0 : Nat) : Int) = 0 from rfl] at this
      rw [this]
      simp [hl]
    have he : (s.extract 1 s.size).data.toList = r := by
      rw [extract_list, size_list, List.take_length, hl]; rfl
    have hes : (s.extract 1 s.size).size = r.length := by rw [size_list, he]
    by_cases h43 : c.toNat = 43
    · have hc : c = 43 := UInt8.toNat_inj.1 h43
      subst hc
      have key : ∀ k, s.size + 5 ≤ k → spec_CronNumber.f k s = some (pairOf r 2) := by
        intro k hk
        obtain ⟨k, rfl⟩ : ∃ m, k = m + 1 := ⟨k - 1, by omega⟩
        unfold spec_CronNumber.f
        rw [if_pos (by omega), if_pos (by omega), hb, if_pos (by rfl)]
        simp only [spec_CronNumber.j0, if_true]
        rw [if_pos (by omega), number_j1 _ (by omega) 2 _ (by omega), he]
      by_cases hr : r = []
      · exact ⟨s.size + 5, 0, 0, by rw [key _ (Nat.le_refl _), pairOf, if_pos hr], ⟨by omega, by omega, .inl rfl, fun h => by omega, fun _ => ⟨mp_plus (.inl hr), rfl⟩, fun h => by omega⟩⟩
      · cases hd : digitsFold 0 r with
        | none => exact ⟨s.size + 5, 0, 0, by rw [key _ (Nat.le_refl _), pairOf, if_neg hr, hd], ⟨by omega, by omega, .inl rfl, fun h => by omega, fun _ => ⟨mp_plus (.inr hd), rfl⟩, fun h => by omega⟩⟩
        | some m =>
          have := digitsFold_le r 0 m (by omega) hd
          refine ⟨s.size + 5, m, 2, by rw [key _ (Nat.le_refl _), pairOf, if_neg hr, hd], ⟨by omega, by omega, .inr (.inr rfl), fun h => by omega, fun h => by omega, fun _ h0 => ?_⟩⟩
          obtain rfl : m = 0 := by omega
          exact mp_plus_zero hr hd
    · by_cases h45 : c.toNat = 45
      · have hc : c = 45 := UInt8.toNat_inj.1 h45
        subst hc
        have hz : ∀ k, s.size + 5 ≤ k → spec_cronZeros.f k (s.extract 1 s.size) = some (decide (∀ c ∈ r, c.toNat = 48)) := by
          intro k hk
          unfold spec_cronZeros.f
          have := zeros_l0 (s.extract 1 s.size) (by omega) _ k 0 (by omega) rfl (by omega)
          rw [show ((0 : Nat) : Int) = 0 from rfl, List.drop_zero, he] at this
          exact this
        by_cases hall : ∀ c ∈ r, c.toNat = 48
        · have key : ∀ k, s.size + 5 ≤ k → spec_CronNumber.f k s = some (pairOf r 2) := by
            intro k hk
            have hzk := hz k hk
            obtain ⟨k, rfl⟩ : ∃ m, k = m + 1 := ⟨k - 1, by omega⟩
            unfold spec_CronNumber.f
            rw [if_pos (by omega), if_pos (by omega), hb, if_neg (by omega), if_pos (by rfl), if_pos (by omega), hzk, decide_eq_true hall]
            simp only [Option.bind_some, spec_CronNumber.j0, if_true]
            rw [if_pos (by omega), number_j1 _ (by omega) 2 _ (by omega), he]
          by_cases hr : r = []
          · exact ⟨s.size + 5, 0, 0, by rw [key _ (Nat.le_refl _), pairOf, if_pos hr], ⟨by omega, by omega, .inl rfl, fun h => by omega, fun _ => ⟨mp_minus (.inl hr), rfl⟩, fun h => by omega⟩⟩
          · cases hd : digitsFold 0 r with
            | none =>
              exfalso
              have : ∀ l : List UInt8, (∀ c ∈ l, c.toNat = 48) → ∀ n, digitsFold n l ≠ none := by
                intro l
                induction l with
                | nil => intro _ n h; cases h
                | cons x t ih =>
                  intro hx n h
                  unfold digitsFold at h
                  have := hx x (by simp)
                  rw [if_pos (by omega)] at h
                  exact ih (fun c hc => hx c (by simp [hc])) _ h
              exact this r hall 0 hd
            | some m =>
              have := digitsFold_le r 0 m (by omega) hd
              refine ⟨s.size + 5, m, 2, by rw [key _ (Nat.le_refl _), pairOf, if_neg hr, hd], ⟨by omega, by omega, .inr (.inr rfl), fun h => by omega, fun h => by omega, fun _ h0 => ?_⟩⟩
              obtain rfl : m = 0 := by omega
              exact mp_minus_zero hr hd
        · have key : ∀ k, s.size + 5 ≤ k → spec_CronNumber.f k s = some (0, 0) := by
            intro k hk
            have hzk := hz k hk
            obtain ⟨k, rfl⟩ : ∃ m, k = m + 1 := ⟨k - 1, by omega⟩
            unfold spec_CronNumber.f
            rw [if_pos (by omega), if_pos (by omega), hb, if_neg (by omega), if_pos (by rfl), if_pos (by omega), hzk, decide_eq_false hall]
            simp only [Option.bind_some, spec_CronNumber.j0, Bool.false_eq_true, if_false]
            rw [number_j1 s (by omega) 1 _ (by omega), hl]
            rfl
          exact ⟨s.size + 5, 0, 0, key _ (Nat.le_refl _), ⟨by omega, by omega, .inl rfl, fun h => by omega, fun _ => ⟨mp_minus (.inr hall), rfl⟩, fun h => by omega⟩⟩
      · have key : ∀ k, s.size + 5 ≤ k → spec_CronNumber.f k s = some (pairOf (c :: r) 1) := by
          intro k hk
          obtain ⟨k, rfl⟩ : ∃ m, k = m + 1 := ⟨k - 1, by omega⟩
          unfold spec_CronNumber.f
          rw [if_pos (by omega), if_pos (by omega), hb, if_neg (by omega), if_neg (by omega)]
          simp only [spec_CronNumber.j0, Bool.false_eq_true, if_false]
          rw [number_j1 s (by omega) 1 _ (by omega), hl]
        cases hd : digitsFold 0 (c :: r) with
        | none => exact ⟨s.size + 5, 0, 0, by rw [key _ (Nat.le_refl _), pairOf, if_neg (by simp), hd], ⟨by omega, by omega, .inl rfl, fun h => by omega, fun _ => ⟨mp_bad h43 h45 hd, rfl⟩, fun h => by omega⟩⟩
        | some m =>
          have := digitsFold_le (c :: r) 0 m (by omega) hd
          exact ⟨s.size + 5, m, 1, by rw [key _ (Nat.le_refl _), pairOf, if_neg (by simp), hd], ⟨by omega, by omega, .inr (.inl rfl), fun _ => mp_rel h43 h45 hd, fun h => by omega, fun h => by omega⟩⟩

theorem step_is (s : ByteArray) (hs : s.size ≤ 4294967296) : ∃ k n v, spec_CronStep.f k s = some (n, v) ∧ (v = 0 ∨ v = 1 ∨ v = 2) ∧
    (v = 1 → ∃ m : Nat, mp s.data.toList = some m ∧ n = m ∧ 1 ≤ m ∧ m < 1099511627776) ∧ (v = 0 → mp s.data.toList = none ∨ mp s.data.toList = some 0) := by
  obtain ⟨k, n, v, hk, hv⟩ := number_is s hs
  by_cases h0 : v = 0
  · subst h0
    refine ⟨k + 1, 0, 0, ?_, .inl rfl, fun h => by omega, fun _ => .inl (hv.bad rfl).1⟩
    unfold spec_CronStep.f
    rw [spec_CronNumber.mono s k _ hk]
    simp [spec_CronStep.j0]
  · by_cases hn : n = 0
    · subst hn
      refine ⟨k + 1, 0, 0, ?_, .inl rfl, fun h => by omega, fun _ => ?_⟩
      · unfold spec_CronStep.f
        rw [spec_CronNumber.mono s k _ hk]
        simp [spec_CronStep.j0, h0]
      · by_cases h1 : v = 1
        · rcases hv.fine h1 with ⟨m, hm, he⟩ | ⟨hm, he⟩
          · right
            rw [hm]
            congr 1
            omega
          · omega
        · right
          rcases hv.vs with h | h | h
          · exact absurd h h0
          · exact absurd h h1
          · exact hv.zero h rfl
    · by_cases hh : n = 1099511627776
      · refine ⟨k + 1, 0, 2, ?_, .inr (.inr rfl), fun h => by omega, fun h => by omega⟩
        unfold spec_CronStep.f
        rw [spec_CronNumber.mono s k _ hk]
        simp only [Option.bind_some, if_neg h0, spec_CronStep.j0]
        rw [if_neg (by simpa using hn), if_pos hh]
      · refine ⟨k + 1, n, v, ?_, hv.vs, fun h1 => ?_, fun h => absurd h h0⟩
        · unfold spec_CronStep.f
          rw [spec_CronNumber.mono s k _ hk]
          simp only [Option.bind_some, if_neg h0, spec_CronStep.j0]
          rw [if_neg (by simpa using hn), if_neg hh]
        · have := hv.lo
          rcases hv.fine h1 with ⟨m, hm, he⟩ | ⟨hm, he⟩
          · exact ⟨m, hm, by omega, by omega, by omega⟩
          · omega

end Go.Proofs.YtmecbmgfacpecaaGreatDoor.Cron

namespace Go.Proofs.YtmecbmgfacpecaaGreatDoor.Cron
open Go Go.RowKit Go.Proofs.YtmecbmgfacpecaaGreatDoorW.PrintWords Go.Proofs.YtmecbmgfacpecaaGreatDoorW.PrintMore Go.Proofs.YtmecbmgfacpecaaGreatDoor.Pr Go.Proofs.YtmecbmgfacpecaaGreatDoor.Text
set_option linter.unusedVariables false

def both (ra rb : Option Nat) : Option (Nat × Nat × Bool) :=
  match ra, rb with
  | some a, some b => some (a, b, false)
  | _, _ => none

structure EndsIs (r : Option (Nat × Nat × Bool)) (lo hi : Nat) (low high : Int) (star single : Bool) (v : Int) : Prop where
  vs : v = 0 ∨ v = 1 ∨ v = 2
  bad : v = 0 → r = none
  fine : v = 1 → (star = true ∧ low = lo ∧ high = hi ∧ r = some (lo, hi, true)) ∨ (star = false ∧ ∃ ra rb, Rel ra low ∧ Rel rb high ∧ (single = true → ra = rb) ∧ r = both ra rb)

theorem worse_f (a b : Int) (ha : a = 0 ∨ a = 1 ∨ a = 2) (hb : b = 0 ∨ b = 1 ∨ b = 2) : ∃ v, spec_worse.f a b = some v ∧ (v = 0 ∨ v = 1 ∨ v = 2) ∧ (v = 0 → a = 0 ∨ b = 0) ∧ (v = 1 → a = 1 ∧ b = 1) ∧ (a = 0 ∨ b = 0 → v = 0) ∧ (a = 1 ∧ b = 1 → v = 1) := by
  unfold spec_worse.f mx
  rcases ha with rfl | rfl | rfl <;> rcases hb with rfl | rfl | rfl <;> simp

structure ValSays (r : Option Nat) (n v : Int) : Prop where
  lo : 0 ≤ n
  hi : n ≤ 1099511627776
  vs : v = 0 ∨ v = 1 ∨ v = 2
  fine : v = 1 → Rel r n
  bad : v = 0 → r = none ∧ n = 0

theorem ValIs.says {r : Option Nat} {n v : Int} (h : ValIs r n v) : ValSays r n v := ⟨h.lo, h.hi, h.vs, h.fine, h.bad⟩

def ReadsLike (val : List UInt8 → Option Nat) (kind : Int) : Prop :=
  ∀ s : ByteArray, s.size ≤ 4294967296 → ∃ k n v, spec_CronValue.f k kind s = some (n, v) ∧ ValSays (val s.data.toList) n v

theorem rdOf_zero {x : ByteArray} {l : List ByteArray} : rdOf ByteArray.empty (x :: l) 0 = x := rfl
theorem rdOf_one {x y : ByteArray} {l : List ByteArray} : rdOf ByteArray.empty (x :: y :: l) 1 = y := rfl

end Go.Proofs.YtmecbmgfacpecaaGreatDoor.Cron

namespace Go.Proofs.YtmecbmgfacpecaaGreatDoor.Cron
open Go Go.Proofs.YtmecbmgfacpecaaGreatDoor.Text Go.Proofs.YtmecbmgfacpecaaGreatDoor.Bits
set_option linter.unusedVariables false

def coreBits (lo hi : Nat) (ra rb : Option Nat) (step : Nat) : Option Nat :=
  match ra, rb with
  | some a, some b => bitsOf lo hi a b step false
  | _, _ => none

structure Mid (r : Option Nat) (lo hi : Nat) (low high : Int) (star : Bool) (step v : Int) : Prop where
  vs : v = 0 ∨ v = 1 ∨ v = 2
  bad : v = 0 → r = none
  fine : v = 1 → ∃ k : Nat, step = k ∧ 1 ≤ k ∧ k < 1099511627776 ∧
    ((star = true ∧ low = lo ∧ high = hi ∧ r = bitsOf lo hi lo hi k (if 1 < k then false else true)) ∨
     (star = false ∧ ∃ ra rb, Rel ra low ∧ Rel rb high ∧ r = coreBits lo hi ra rb k))

theorem rangeS_eq {val : List UInt8 → Option Nat} {lo hi : Nat} {s p : List UInt8} {ps : List (List UInt8)} (h1 : splitL 47 s = p :: ps) :
    rangeS val lo hi s = match ends val lo hi (splitL 45 p) with | none => none | some (a, b, st) => rangeFin lo hi ((splitL 45 p).length == 1) a b st ps := by
  unfold rangeS
  rw [h1]
  rfl

theorem if_same (c : Prop) [Decidable c] (x : Bool) : (if c then x else x) = x := by split <;> rfl

theorem bitsOf_zero (lo hi a b : Nat) (st : Bool) : bitsOf lo hi a b 0 st = none := by
  unfold bitsOf
  split
  · rfl
  · split
    · rfl
    · split
      · rfl
      · rfl

theorem rel_lt {r : Option Nat} {n : Int} {hi : Nat} (h : Rel r n) (hh : hi ≤ 62) (hn : n ≤ hi) : ∃ a : Nat, r = some a ∧ n = a := by
  rcases h with ⟨a, ha, he⟩ | ⟨_, he⟩
  · exact ⟨a, ha, by omega⟩
  · omega

theorem core_out {lo hi : Nat} {low high : Int} {ra rb : Option Nat} {k : Nat} (hh : hi ≤ 62) (ha : Rel ra low) (hb : Rel rb high) (h : low < lo ∨ (hi : Int) < high ∨ high < low) : coreBits lo hi ra rb k = none := by
  unfold coreBits
  cases ra with
  | none => rfl
  | some a =>
    cases rb with
    | none => rfl
    | some b =>
      rcases ha with ⟨a', e1, e2⟩ | ⟨e1, _⟩
      · injection e1 with e1
        subst e1
        rcases hb with ⟨b', e3, e4⟩ | ⟨e3, _⟩
        · injection e3 with e3
          subst e3
          show bitsOf lo hi a b k false = none
          unfold bitsOf
          by_cases x1 : a < lo
          · rw [if_pos x1]
          · rw [if_neg x1]
            by_cases x2 : hi < b
            · rw [if_pos x2]
            · rw [if_neg x2]
              by_cases x3 : b < a
              · rw [if_pos x3]
              · omega
        · cases e3
      · cases e1

theorem core_in {lo hi : Nat} {low high : Int} {ra rb : Option Nat} {k : Nat} (hh : hi ≤ 62) (ha : Rel ra low) (hb : Rel rb high) (h1 : (lo : Int) ≤ low) (h2 : high ≤ hi) (h3 : low ≤ high) (hk : 1 ≤ k) :
    ∃ a b : Nat, low = a ∧ high = b ∧ a ≤ b ∧ b ≤ hi ∧ coreBits lo hi ra rb k = some (steps a b k ||| 0) := by
  obtain ⟨b, rfl, hb'⟩ := rel_lt hb hh h2
  obtain ⟨a, rfl, ha'⟩ := rel_lt ha hh (show low ≤ hi by omega)
  refine ⟨a, b, ha', hb', by omega, by omega, ?_⟩
  show bitsOf lo hi a b k false = _
  unfold bitsOf
  rw [if_neg (by omega), if_neg (by omega), if_neg (by omega), if_neg (by omega)]
  rfl

theorem star_in {lo hi k : Nat} {st : Bool} (h1 : lo ≤ hi) (hk : 1 ≤ k) : bitsOf lo hi lo hi k st = some (steps lo hi k ||| (if st then 9223372036854775808 else 0)) := by
  unfold bitsOf
  rw [if_neg (by omega), if_neg (by omega), if_neg (by omega), if_neg (by omega)]

def stepSet (a b k : Nat) : Nat → Bool := fun j => decide (a ≤ j) && decide (j ≤ b) && ((j - a) % k == 0)

theorem stepSet_bits {a b k : Nat} (hb : b ≤ 62) : mkBits (stepSet a b k) 63 = steps a b k := by
  unfold steps
  apply eq_mkBits
  · exact Nat.lt_of_lt_of_le (mkBits_lt _ 63) (by decide)
  · intro j hj
    rw [mkBits_test]
    unfold stepSet
    by_cases h : j < 63
    · simp [h]
    · have : ¬ j ≤ b := by omega
      simp [this]

end Go.Proofs.YtmecbmgfacpecaaGreatDoor.Cron

namespace Go.Proofs.YtmecbmgfacpecaaGreatDoor.Cron
open Go Go.RowKit Go.Proofs.YtmecbmgfacpecaaGreatDoor.Bits
set_option linter.unusedVariables false

def setCells (star : Bool) (p : Nat → Bool) : Array Value := #[.bool star] ++ ((Array.range 63).map fun j => .bool (p j))

theorem setCells_size (star : Bool) (p : Nat → Bool) : (setCells star p).size = 64 := by simp [setCells]

theorem setCells_zero (star : Bool) (p : Nat → Bool) : (setCells star p)[0]? = some (.bool star) := by
  unfold setCells
  rw [Array.getElem?_append_left (by simp)]
  simp

theorem setCells_at (star : Bool) (p : Nat → Bool) (j : Nat) (h : j < 63) : (setCells star p)[j + 1]? = some (.bool (p j)) := by
  unfold setCells
  rw [Array.getElem?_append_right (by simp)]
  simp [h]

theorem setCells_out (star : Bool) (p : Nat → Bool) (j : Nat) (h : 64 ≤ j) : (setCells star p)[j]? = none := by
  rw [Array.getElem?_eq_none]
  rw [setCells_size]; exact h

theorem setCells_one (star : Bool) (p : Nat → Bool) : (setCells star p).all (·.oneCell') = true := by
  rw [Array.all_eq_true_iff_forall_mem]
  intro v hv
  unfold setCells at hv
  rw [Array.mem_append] at hv
  rcases hv with hv | hv
  · simp at hv; subst hv; rfl
  · rw [Array.mem_map] at hv
    obtain ⟨j, _, rfl⟩ := hv
    rfl

theorem setCells_star (star b : Bool) (p : Nat → Bool) : (setCells star p).setIfInBounds 0 (.bool b) = setCells b p := by
  apply Array.ext_getElem?
  intro i
  rw [Array.getElem?_setIfInBounds]
  cases i with
  | zero => rw [if_pos rfl, if_pos (by rw [setCells_size]; decide), setCells_zero]
  | succ i =>
    rw [if_neg (by omega)]
    by_cases h : i < 63
    · rw [setCells_at _ _ _ h, setCells_at _ _ _ h]
    · rw [setCells_out _ _ _ (by omega), setCells_out _ _ _ (by omega)]

theorem setCells_put (star b : Bool) (p : Nat → Bool) (j : Nat) (hj : j < 63) : (setCells star p).setIfInBounds (j + 1) (.bool b) = setCells star (fun i => if i = j then b else p i) := by
  apply Array.ext_getElem?
  intro i
  rw [Array.getElem?_setIfInBounds]
  cases i with
  | zero => rw [if_neg (by omega), setCells_zero, setCells_zero]
  | succ i =>
    by_cases h : i < 63
    · rw [setCells_at _ _ _ h, setCells_at _ _ _ h]
      by_cases e : i = j
      · subst e
        rw [if_pos rfl, if_pos (by rw [setCells_size]; omega), if_pos rfl]
      · rw [if_neg (by omega), if_neg e]
    · rw [setCells_out _ _ _ (by omega), setCells_out _ _ _ (by omega), if_neg (by omega)]

theorem setCells_ext {star : Bool} {p q : Nat → Bool} (h : ∀ j, j < 63 → p j = q j) : setCells star p = setCells star q := by
  apply Array.ext_getElem?
  intro i
  cases i with
  | zero => rw [setCells_zero, setCells_zero]
  | succ i =>
    by_cases hi : i < 63
    · rw [setCells_at _ _ _ hi, setCells_at _ _ _ hi, h i hi]
    · rw [setCells_out _ _ _ (by omega), setCells_out _ _ _ (by omega)]

def noSet : Nat → Bool := fun _ => false

def IsSet (w : World) (g : Nat) (star : Bool) (p : Nat → Bool) : Prop := w.heap[g]? = some (.cells (setCells star p) 56 (0, 0))

theorem IsSet.lt {w : World} {g : Nat} {star : Bool} {p : Nat → Bool} (h : IsSet w g star p) : g < w.heap.size := (Array.getElem?_eq_some_iff.1 h).1

theorem IsSet.below {w w' : World} {g : Nat} {star : Bool} {p : Nat → Bool} (h : IsSet w g star p) (hb : Below w.heap.size w w') : IsSet w' g star p :=
  (hb.block g h.lt).trans h

theorem IsSet.cell0 {w : World} {g : Nat} {star : Bool} {p : Nat → Bool} (h : IsSet w g star p) : w.cell? ⟨g, 0, none⟩ = some (.bool star) :=
  (cell_of_row w g 0 _ _ _ h).trans (setCells_zero star p)

theorem IsSet.cellAt {w : World} {g : Nat} {star : Bool} {p : Nat → Bool} (h : IsSet w g star p) (j : Nat) (hj : j < 63) : w.cell? ⟨g, j + 1, none⟩ = some (.bool (p j)) :=
  (cell_of_row w g (j + 1) _ _ _ h).trans (setCells_at star p j hj)

theorem IsSet.free {w : World} {g : Nat} {star : Bool} {p : Nat → Bool} (h : IsSet w g star p) (j : Nat) : w.frozen? ⟨g, j, none⟩ = false :=
  frozen_of_row w g j _ _ h

theorem IsSet.put {w : World} {g : Nat} {star : Bool} {p : Nat → Bool} (h : IsSet w g star p) (j : Nat) (hj : j < 63) (b : Bool) : IsSet (w.setCell ⟨g, j + 1, none⟩ (.bool b)) g star (fun i => if i = j then b else p i) := by
  unfold IsSet
  rw [heap_setCell_same w g (j + 1) _ _ _ h, setCells_put star b p j hj]

theorem IsSet.putStar {w : World} {g : Nat} {star : Bool} {p : Nat → Bool} (h : IsSet w g star p) (b : Bool) : IsSet (w.setCell ⟨g, 0, none⟩ (.bool b)) g b p := by
  unfold IsSet
  rw [heap_setCell_same w g 0 _ _ _ h, setCells_star]

theorem IsSet.other {w : World} {g : Nat} {star : Bool} {p : Nat → Bool} (h : IsSet w g star p) {a : Addr} (ha : g ≠ a.block) (v : Value) : IsSet (w.setCell a v) g star p := by
  unfold IsSet
  rw [heap_setCell_other w a g v ha]
  exact h

theorem isSet_new (w : World) (star : Bool) (p : Nat → Bool) : IsSet (w.alloc (.cells (setCells star p) 56 (0, 0))) w.heap.size star p :=
  heap_alloc_new w _

theorem setSize : (Tryz.prog.info? 56).map (·.size) = some 64 := by kernel_rfl

theorem run_alloc_set (w : World) : (Instr.alloc 56 true (.tuple #[])).run Tryz.prog w = .ok (.pointer (some ⟨w.heap.size, 0, none⟩)) (w.alloc (.cells (setCells false noSet) 56 (0, 0))) := by kernel_rfl

theorem built_set : (Tryz.prog.built 56 []) = some (setCells false noSet) := by kernel_rfl

theorem IsSet.store {w : World} {g : Nat} {star : Bool} {p : Nat → Bool} (h : IsSet w g star p) (st : Bool) (q : Nat → Bool) : IsSet (w.setRow g (setCells st q)) g st q :=
  setRow_heap w g _ _ _ _ h

theorem IsSet.row_other {w : World} {g k : Nat} {star : Bool} {p : Nat → Bool} (h : IsSet w g star p) (hk : g ≠ k) (cs : Array Value) : IsSet (w.setRow k cs) g star p :=
  (setRow_other w k g cs hk).trans h

section
variable {ops : Array Oper} {rest : List Oper} {o : Oper} {a : Act} {w : World} {Q : Exit → Act → World → Prop}

theorem wpList_build_set (hg : o.guard = none) (ho : o.op = .build 56 #[])
    (h : wpList Tryz.prog ops Q rest (a.put o.dst (.agg (setCells false noSet))) w) : wpList Tryz.prog ops Q (o :: rest) a w := by
  have e : ((#[] : Array (Nat × Operand)).map fun (i, x) => (i, a.eval x)).toList = [] := by simp
  refine wpList_build hg 56 #[] ho (by rw [e, built_set]; exact Option.isSome_some) ?_
  rw [e, built_set, Option.getD_some]
  exact h

theorem wpList_store_set (hg : o.guard = none) (x y : Operand) (ho : o.op = .store 56 x y) (g : Nat) (st : Bool) (q : Nat → Bool)
    (hx : a.eval x = .pointer (some ⟨g, 0, none⟩)) (hy : a.eval y = .agg (setCells st q)) (st0 : Bool) (q0 : Nat → Bool) (hs : IsSet w g st0 q0)
    (h : wpList Tryz.prog ops Q rest (a.put o.dst undef) (w.setRow g (setCells st q))) : wpList Tryz.prog ops Q (o :: rest) a w :=
  wpList_store_row hg 56 x y ho g _ hx hy _ _ hs (by rw [setSize, setCells_size]) (by rw [setCells_size, setCells_size]) (setCells_one st q) h

theorem wpList_load_set (hg : o.guard = none) (x : Operand) (ho : o.op = .load 56 x) (g : Nat) (st : Bool) (q : Nat → Bool)
    (hx : a.eval x = .pointer (some ⟨g, 0, none⟩)) (hs : IsSet w g st q)
    (h : wpList Tryz.prog ops Q rest (a.put o.dst (.agg (setCells st q))) w) : wpList Tryz.prog ops Q (o :: rest) a w := by
  exact wpList_load_row hg 56 x ho g hx _ _ _ _ hs Tryz.underlying56 rfl (by rw [setSize, setCells_size]) h
end

theorem run_load_set (w : World) (g : Nat) (st : Bool) (q : Nat → Bool) (hs : IsSet w g st q) : (loadVar 56 ⟨g, 0, none⟩).run Tryz.prog w = .ok (.agg (setCells st q)) w := by
  exact run_loadVar_row w g _ _ _ _ _ hs Tryz.underlying56 rfl (by rw [setSize, setCells_size])

theorem results_set {fn : Func} {p u : Tmp} (h : fn.results = #[.cell p 56, .tmp u]) (tmps : Array Value) (w : World) (g : Nat) (st : Bool) (q : Nat → Bool)
    (hp : tmps.getD p undef = .pointer (some ⟨g, 0, none⟩)) (hs : IsSet w g st q) :
    (results fn tmps).run Tryz.prog w = .ok (.tuple #[.agg (setCells st q), tmps.getD u undef]) w := by
  rw [results_cell_tmp h, hp]
  simp only [asAddr, Sem.run_pure, Result.andThen_ok, run_load_set w g st q hs]

def inCells (p : Nat → Bool) : Array Value := (Array.range 63).map fun j => .bool (p j)

theorem inCells_size (p : Nat → Bool) : (inCells p).size = 63 := by simp [inCells]
theorem inCells_at (p : Nat → Bool) (j : Nat) (h : j < 63) : (inCells p)[j]? = some (.bool (p j)) := by simp [inCells, h]

theorem sizeIn : (Tryz.prog.info? 54).map (·.size) = some 63 := by kernel_rfl
theorem sizeBool : (Tryz.prog.info? 4).map (·.size) = some 1 := by kernel_rfl

theorem run_load_in (w : World) (g : Nat) (st : Bool) (q : Nat → Bool) (hs : IsSet w g st q) : (loadVar 54 ⟨g, 1, none⟩).run Tryz.prog w = .ok (.agg (inCells q)) w := by
  have hl : (loadCells ⟨g, 1, none⟩ (inCells q).toList.length).run Tryz.prog w = .ok (inCells q).toList.toArray w :=
    run_loadCells_list (P := Tryz.prog) w ⟨g, 1, none⟩ (inCells q).toList (fun j v hv => by
      have hj : j < 63 := by
        have := (List.getElem?_eq_some_iff.1 hv).1
        rw [Array.length_toList, inCells_size] at this
        exact this
      have hadd : (⟨g, 1, none⟩ : Addr).add j = ⟨g, j + 1, none⟩ := by
        unfold Addr.add
        split
        · rename_i h; subst h; rfl
        · simp; omega
      rw [hadd, hs.cellAt j hj]
      have := inCells_at q j hj
      rw [← Array.getElem?_toList] at this
      rw [← this, hv])
  rw [Array.length_toList, inCells_size] at hl
  cases hq : Tryz.prog.info? 54 with
  | none => have := sizeIn; simp [hq] at this
  | some i =>
    have hsz : i.size = 63 := by have := sizeIn; simpa [hq] using this
    have hagg : (isAgg 54).run Tryz.prog w = .ok true w := by
      unfold isAgg
      rw [Sem.run_bind, run_underlying Tryz.underlying54 w]
      rfl
    simp only [Array.toArray_toList] at hl
    simp [loadVar, Sem.run_bind, hagg, sizeOf, typeInfo, hq, hsz, hl]

theorem run_index_in (q : Nat → Bool) (n : Nat) (h : n < 63) (w : World) : (Instr.index 54 (.agg (inCells q)) (.int .i64 n)).run Tryz.prog w = .ok (.bool (q n)) w := by
  cases hq : Tryz.prog.info? 4 with
  | none => have := sizeBool; simp [hq] at this
  | some i =>
    have hsz : i.size = 1 := by have := sizeBool; simpa [hq] using this
    have hp := run_part_plain (P := Tryz.prog) (e := 4) (by kernel_rfl) (w := w) (inCells_at q n h)
    have hlt : (n : Int) < 63 := by omega
    simp [Instr.index, run_underlying Tryz.underlying54, asIntOf, sizeOf, typeInfo, hq, hsz, hp, Sem.run_bind]
    intro h'
    omega

section
variable {ops : Array Oper} {rest : List Oper} {o : Oper} {a : Act} {w : World} {Q : Exit → Act → World → Prop}
theorem wpList_load_in (hgd : o.guard = none) (x : Operand) (ho : o.op = .load 54 x) (g : Nat) (st : Bool) (q : Nat → Bool)
    (hx : a.eval x = .pointer (some ⟨g, 1, none⟩)) (hs : IsSet w g st q)
    (h : wpList Tryz.prog ops Q rest (a.put o.dst (.agg (inCells q))) w) : wpList Tryz.prog ops Q (o :: rest) a w := by
  refine wpList_plain hgd fun K hK => ?_
  unfold Oper.wp execOp
  simp only [ho, hx, Instr.loadAt, Instr.sureAddr, Sem.run_bind, Sem.run_pure, Result.andThen_ok, run_load_in w g st q hs]
  exact hK _ _ h
end

theorem run_box_set (st : Bool) (p : Nat → Bool) (w : World) : (Instr.box 56 (.agg (setCells st p))).run Tryz.prog w = .ok (.pointer (some ⟨w.heap.size, 0, none⟩)) (w.alloc (.cells (setCells st p) 56 (0, 0))) := by
  rfl


theorem isSet_lit (w : World) : IsSet (w.alloc (.cells #[.bool false, .bool false, .bool false, .bool false, .bool false, .bool false, .bool false, .bool false, .bool false, .bool false, .bool false, .bool false, .bool false, .bool false, .bool false, .bool false, .bool false, .bool false, .bool false, .bool false, .bool false, .bool false, .bool false, .bool false, .bool false, .bool false, .bool false, .bool false, .bool false, .bool false, .bool false, .bool false, .bool false, .bool false, .bool false, .bool false, .bool false, .bool false, .bool false, .bool false, .bool false, .bool false, .bool false, .bool false, .bool false, .bool false, .bool false, .bool false, .bool false, .bool false, .bool false, .bool false, .bool false, .bool false, .bool false, .bool false, .bool false, .bool false, .bool false, .bool false, .bool false, .bool false, .bool false, .bool false] 56)) w.heap.size false noSet :=
  (heap_alloc_new w _).trans (by kernel_rfl)

end Go.Proofs.YtmecbmgfacpecaaGreatDoor.Cron

namespace Go.Proofs.YtmecbmgfacpecaaGreatDoor.Cron
open Go Go.RowKit Go.Proofs.YtmecbmgfacpecaaGreatDoor.Text Go.Proofs.YtmecbmgfacpecaaGreatDoor.Bits Go.Proofs.YtmecbmgfacpecaaGreatDoorW.PrintWords Go.Proofs.YtmecbmgfacpecaaGreatDoorW.PrintLast Go.Proofs.YtmecbmgfacpecaaGreatDoorW.PrintMore Go.Proofs.YtmecbmgfacpecaaGreatDoor.Pr
set_option linter.unusedVariables false
set_option linter.unusedSimpArgs false

def setBits (star : Bool) (p : Nat → Bool) : Nat := mkBits p 63 ||| (if star then 9223372036854775808 else 0)

structure ItemIs (r : Option Nat) (star : Bool) (p : Nat → Bool) (v : Int) : Prop where
  vs : v = 0 ∨ v = 1 ∨ v = 2
  bad : v = 0 → r = none
  fine : v = 1 → r = some (setBits star p)
  none_ : v ≠ 1 → star = false ∧ p = noSet

def ItemPost (w : World) (r : Option Nat) (e : Ending) (w' : World) : Prop :=
  ∃ star p v, e = .returned (.tuple #[.agg (setCells star p), .int .i64 v]) ∧ ItemIs r star p v ∧ Below w.heap.size w w'

theorem pieces_any (c : UInt8) (s : ByteArray) (hs : s.size ≤ 8796093022206) (w : World) :
    Calls Tryz.prog 56 #[.string s, .int .u8 (c.toNat : Int)] w fun e w' => ∃ g n cap, e = .returned (.slice (some ⟨g, 0, none⟩) n cap) ∧ w.heap.size ≤ g ∧ Texts w' g n cap (splitB c s) ∧ Below w.heap.size w w' := by
  obtain ⟨k, hk⟩ := (pieces_f c s hs).rounds
  refine (spec_cronPieces.calls k s (c.toNat : Int) _ w hk).mono ?_
  rintro e w' ⟨v, rfl, hR, hb⟩
  obtain ⟨g, n, cap, rfl, hg, ht⟩ := texts_of_R hR (splitB_ne c s)
  exact ⟨g, n, cap, rfl, hg, ht, hb⟩

theorem box_row (w : World) (o : Obj) (c : Array Value) (T : TypeId) {w1 : World} (hb : Below ((w.alloc (.cells c T)).alloc o).heap.size ((w.alloc (.cells c T)).alloc o) w1) : w1.heap[w.heap.size]? = some (.cells c T (0, 0)) :=
  (hb.block w.heap.size (by simp; omega)).trans (heap_alloc2_old w _ _)

theorem item_zero {r : Option Nat} {v : Int} (h0 : v = 0 ∨ v = 2) (h : v = 0 → r = none) : ItemIs r false noSet v :=
  ⟨by omega, h, fun e => by omega, fun _ => ⟨rfl, rfl⟩⟩

def rg58_4.T4 : Bool × List (List Nat × List Nat) := (true, [([], []), ([], []), ([1], [1]), ([2], [2]), ([0, 3], [0, 3]), ([4], [4]), ([5], [5]), ([5], [5]), ([5], [5]), ([5], [5]), ([5], [5]), ([6, 4, 0, 1, 2, 3, 4, 5, 6], [6]), ([7, 11, 0, 1, 2, 3, 4, 5, 6, 7, 11], [7]), ([8, 12, 0, 1, 2, 3, 4, 5, 6, 7, 8, 11, 12], [8]), ([9, 13, 0, 1, 2, 3, 4, 5, 6, 7, 8, 9, 11, 12, 13], [9]), ([10, 14, 0, 1, 2, 3, 4, 5, 6, 7, 8, 9, 10, 11, 12, 13, 14], [10])])
def rg58_4.B4 : List Nat := [0, 0, 2, 6, 15, 31, 63, 63, 63, 63, 63, 127, 2303, 6655, 15359, 32767]
theorem rg58_4.tab4 : rtab .any (opsOf Tryz.f58 4) = rg58_4.T4 := by kernel_rfl
theorem rg58_4.bits4 : waitsOk rg58_4.T4.2 rg58_4.B4 = true := by kernel_rfl

theorem stepSet_start (a b k : Nat) : setCells false (fun j => stepSet a b k j && decide (j < a)) = setCells false noSet := by
  congr 1
  funext j
  unfold stepSet noSet
  by_cases h : a ≤ j
  · have : ¬ j < a := by omega
    simp [this]
  · simp [h]

theorem stepSet_next {a b k n : Nat} (hn : a ≤ n) (hb : n ≤ b) : (fun i => if i = n then ((n - a) % k == 0) else (stepSet a b k i && decide (i < n))) = (fun i => stepSet a b k i && decide (i < n + 1)) := by
  funext i
  by_cases h : i = n
  · subst h
    have h3 : i < i + 1 := by omega
    simp [stepSet, hn, hb, h3]
  · rw [if_neg h]
    by_cases h2 : i < n
    · have : i < n + 1 := by omega
      simp [h2, this]
    · have : ¬ i < n + 1 := by omega
      simp [h2, this]

theorem stepSet_end {a b k n : Nat} (hn : b < n) : (fun i => stepSet a b k i && decide (i < n)) = stepSet a b k := by
  funext i
  by_cases h : i < n
  · simp [h]
  · have : ¬ i ≤ b := by omega
    simp [stepSet, this]

end Go.Proofs.YtmecbmgfacpecaaGreatDoor.Cron
