/- What cron's getField answers: the bits of the items between commas, one after another. -/
import Derived.Test.YtikgnpachlgakaaDoorGetRange
import Derived.Test.YtikgnpachlgakaaDoorFieldsL
import Derived.Test.YtikgnpachlgakaaDoorSplitCalls
import Derived.Laws.OwnMore
import Derived.Deep.DeepMust
namespace Go.Proofs.YtikgnpachlgakaaDoor.Cron
open Go Go.RowKit Go.Proofs.YtikgnpachlgakaaDoor.Text Go.Proofs.YtikgnpachlgakaaDoor.Bits
set_option linter.unusedVariables false

/-- the bits of all items, from some bits on -/
def fieldGo (r : List UInt8 → Option Nat) : List (List UInt8) → Nat → Option Nat
  | [], b => some b
  | x :: xs, b => match r x with
    | none => none
    | some c => fieldGo r xs (b ||| c)

/-- the bits of a field -/
def fieldS (val : List UInt8 → Option Nat) (lo hi : Nat) (l : List UInt8) : Option Nat := fieldGo (rangeS val lo hi) (partsL 44 l) 0

theorem rangeS_lt {val : List UInt8 → Option Nat} {lo hi : Nat} (h : hi ≤ 62) {l : List UInt8} {b : Nat} (e : rangeS val lo hi l = some b) : b < 2 ^ 64 := by
  unfold rangeS at e
  split at e
  · cases e
  · split at e
    · cases e
    · unfold rangeFin at e
      split at e
      · cases e
      · rename_i k b' st _
        unfold bitsOf at e
        split at e
        · cases e
        · split at e
          · cases e
          · split at e
            · cases e
            · split at e
              · cases e
              · injection e with e
                rw [← e]
                exact Nat.or_lt_two_pow (steps_lt _ _ _) (by split <;> decide)

def FieldAnswers (w : World) (r : Option Nat) (e : Ending) (w' : World) : Prop :=
  (match r with
    | some b => e = .returned (.tuple #[.int .u64 b, .nilIface])
    | none => ∃ (n : Int) (t : TypeId) (x : Value), e = .returned (.tuple #[.int .u64 n, .iface t x])) ∧ Below w.heap.size w w'

theorem comma_any (x : Nat) (W : World) : Calls Tryd.prog 78 #[.int .i32 (x : Int)] W fun e w' => e = .returned (.bool (x == 44)) ∧ Below W.heap.size W w' := by
  go_enter Tryd.func78, Tryd.ntmps78
  go_wp2
  go_ret
  refine ⟨?_, Below.refl _ _⟩
  have : ((x : Int) == 44) = (x == 44) := by
    rw [Bool.eq_iff_iff]
    simp
    omega
  simp [this]

theorem comma_pays (w : World) : Go.Proofs.PredGrows Tryd.prog 78 #[] (fun r => r == 44) w := fun W x hx hb => comma_any x W

theorem fieldsFunc_any (s : ByteArray) (hs : s.size ≤ 4294967296) (w : World) :
    Calls Tryd.prog 77 #[.string s, .func (.func 78) #[] #[]] w fun e w' => ∃ g, e = .returned (.slice (some ⟨g, 0, none⟩) (partsL 44 s.data.toList).length (partsL 44 s.data.toList).length) ∧
      Texts w' g (partsL 44 s.data.toList).length (partsL 44 s.data.toList).length ((partsL 44 s.data.toList).map ba) ∧ Below w.heap.size w w' := by
  have hp := goFields_parts 44 (by decide) s
  have hc : (44 : UInt8).toNat = 44 := rfl
  rw [hc] at hp
  have hl : (Lib.goFieldsP (fun r => r == 44) s).length = (partsL 44 s.data.toList).length := by rw [hp, List.length_map]
  refine (Tryd.strings_FieldsFunc_grows 78 #[] (enters_of Tryd.func78 (by kernel_rfl) rfl) (fun r => r == 44) s w hs (comma_pays w)).mono ?_
  rintro e w' ⟨g, rfl, hg, hown, hb⟩
  rw [hl] at hown ⊢
  have hlt := (hown.lt g rfl).2
  refine ⟨g, rfl, ⟨by rw [List.length_map], Nat.le_refl _, hlt, fun i x hx => ?_⟩, hb⟩
  have hi : i < (partsL 44 s.data.toList).length := by
    have := (List.getElem?_eq_some_iff.1 hx).1
    rwa [List.length_map] at this
  rw [hown.cellAt i (by omega), hp, List.getElem?_map, hx]
  rfl

set_option maxRecDepth 100000 in
set_option maxHeartbeats 1000000 in
theorem getFieldA (m : Option Nat) (val : List UInt8 → Option Nat) (Inv : World → Prop) (hR : Reads m val Inv) (lo hi : Nat) (s : ByteArray) (hs : s.size ≤ 4294967296) (h1 : lo ≤ hi) (h2 : hi ≤ 62) (w : World) (hI : Inv w) :
    Calls Tryd.prog 54 #[.string s, .agg #[.int .u64 lo, .int .u64 hi, .map m]] w (FieldAnswers w (fieldS val lo hi s.data.toList)) := by
  unfold fieldS
  have HF := Lib.hid (fun w' => fieldsFunc_any s hs w')
  have hsz : ∀ x ∈ partsL 44 s.data.toList, (ba x).size ≤ 4294967296 := by
    intro x hx
    have := splitL_size 44 _ x (List.mem_filter.1 hx |>.1)
    rw [← size_list] at this
    rw [ba_size]
    omega
  have hlen : (partsL 44 s.data.toList).length ≤ 4294967297 := by
    have := List.length_filter_le (· ≠ []) (splitL 44 s.data.toList)
    have h2 := splitL_len 44 s.data.toList
    rw [← size_list] at h2
    unfold partsL
    omega
  have HSZ := Lib.hid hsz
  clear hsz
  generalize partsL 44 s.data.toList = ps at *
  go_enter Tryd.func54, Tryd.ntmps54
  go_wp2_with (go_at_call 77; go_must (refine (HF.out _).mono ?_); rintro e w1 ⟨g, rfl, ht, hb1⟩)
  have hbx : w1.heap[w.heap.size]? = some (.cells #[.int .u64 lo, .int .u64 hi, .map m] 87 (0, 0)) := (hb1.block w.heap.size (by simp)).trans (heap_alloc_new w _)
  have hB1 : Below w.heap.size w w1 := ((Below.refl _ _).alloc (Nat.le_refl _) _).trans (hb1.mono (by simp))
  have HT := Lib.hid ht
  have HX0 := Lib.hid (show w1.cell? ⟨w.heap.size, 0, none⟩ = some (.int .u64 lo) from cell_of_row _ _ _ _ _ _ hbx)
  have HX1 := Lib.hid (show w1.cell? ⟨w.heap.size, 1, none⟩ = some (.int .u64 hi) from cell_of_row _ _ _ _ _ _ hbx)
  have HX2 := Lib.hid (show w1.cell? ⟨w.heap.size, 2, none⟩ = some (.map m) from cell_of_row _ _ _ _ _ _ hbx)
  have hz1 : w.heap.size < w1.heap.size := by have := hb1.size; simp at this; omega
  have HB1 := Lib.hid hB1
  clear hbx hB1 hb1 ht HF
  go_loopw [6, 16] (fun v6 v16 wr => ∃ i acc : Nat, v16 = .int .i64 i ∧ v6 = .int .u64 acc ∧ i ≤ ps.length ∧ acc < 2 ^ 64 ∧ Hid (fieldGo (rangeS val lo hi) (ps.drop i) acc = fieldGo (rangeS val lo hi) ps 0) ∧ Below w1.heap.size w1 wr) (fun _ v16 _ => ps.length - (intOf v16).toNat)
  case atStart => exact ⟨0, 0, rfl, rfl, by omega, by decide, Lib.hid rfl, Below.refl _ _⟩
  case round =>
    obtain ⟨i, acc, rfl, rfl, hil, hacc, HG, hbr⟩ := hrel
    have hx0 := (hbr.cell (p := ⟨w.heap.size, 0, none⟩) hz1).trans HX0.out
    have hx1 := (hbr.cell (p := ⟨w.heap.size, 1, none⟩) hz1).trans HX1.out
    have hx2 := (hbr.cell (p := ⟨w.heap.size, 2, none⟩) hz1).trans HX2.out
    have hBr := below_of_le HB1.out hbr
    have hIr : Inv wr := hR.keeps hI hBr
    by_cases hlt : i < ps.length
    · have hc : wr.cell? ⟨g, i, none⟩ = some (.string (ba ps[i])) := (HT.out.below hbr).at_ i _ (by simp [hlt])
      have hdr : ps.drop i = ps[i] :: ps.drop (i + 1) := List.drop_eq_getElem_cons hlt
      have HGo := HG.out
      rw [hdr] at HGo
      have hRA := rangeA m val Inv hR lo hi (ba ps[i]) (HSZ.out _ (List.getElem_mem hlt)) h1 h2 wr hIr
      rw [ba_list] at hRA
      cases hr : rangeS val lo hi ps[i] with
      | none =>
        have HN : Hid (fieldGo (rangeS val lo hi) ps 0 = none) := Lib.hid (by rw [← HGo, fieldGo, hr])
        rw [hr] at hRA
        have HRA := Lib.hid hRA
        clear hRA hr HGo hdr
        go_wp2_with (go_at_call 53; go_must (refine HRA.out.mono ?_); rintro e w2 ⟨⟨t, x, rfl⟩, hb2⟩)
        go_ret2
        refine ⟨?_, below_of_le hBr hb2⟩
        rw [HN.out]
        exact ⟨_, t, x, rfl⟩
      | some b =>
        have hb64 := rangeS_lt h2 hr
        have HN : Hid (fieldGo (rangeS val lo hi) (ps.drop (i + 1)) (acc ||| b) = fieldGo (rangeS val lo hi) ps 0) := Lib.hid (by rw [← HGo, fieldGo, hr])
        rw [hr] at hRA
        have HRA := Lib.hid hRA
        have hor : bits .or .u64 (acc : Int) (b : Int) = ((acc ||| b : Nat) : Int) := or_u64 hacc hb64
        clear hRA hr HGo hdr
        go_wp2_with (go_at_call 53; go_must (refine HRA.out.mono ?_); rintro e w2 ⟨rfl, hb2⟩)
        go_roundw
        case rel => exact ⟨i + 1, acc ||| b, by go_num, by first | rfl | (simp [hor]), by omega, Nat.or_lt_two_pow hacc hb64, HN, below_of_le hbr hb2⟩
        case measure => simp [intOf]; omega
    · have hie : i = ps.length := by omega
      have HN : Hid (fieldGo (rangeS val lo hi) ps 0 = some acc) := Lib.hid (by rw [← HG.out, hie, List.drop_length]; rfl)
      go_wp2_with fail
      go_ret2
      refine ⟨?_, hBr⟩
      rw [HN.out]
      exact rfl
end Go.Proofs.YtikgnpachlgakaaDoor.Cron
