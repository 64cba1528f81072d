/- Lemmas and walks on the way to the law, merged by wip/tools/pack.py: FieldsL, GetField, SpecNumber. Conditions: none. -/
import Derived.Test.YtikgnpachlgakaaGreatDoorGrB
import Derived.Lib.FieldsP
import Derived.Lib.SpaceUEq
import Derived.Test.YtikgnpachlgakaaGreatDoorGrC
import Derived.Laws.OwnMore
import Derived.Deep.DeepMust
import Derived.Test.YtikgnpachlgakaaGreatDoorPrA
namespace Go.Proofs.YtikgnpachlgakaaGreatDoor.Text
open Go Go.Lib
set_option linter.unusedVariables false

theorem splitL_skip {c : UInt8} : ∀ (u r : List UInt8), (∀ x ∈ u, x ≠ c) → splitL c (u ++ r) = consHead u (splitL c r)
  | [], r, _ => (consHead_nil (splitL_ne c r)).symm
  | x :: u, r, h => by
    rw [List.cons_append, splitL_cons_ne _ (h x (by simp)), splitL_skip u r fun y hy => h y (by simp [hy])]
    cases splitL c r with
    | nil => rfl
    | cons a t => rfl

theorem splitL_plain {c : UInt8} (u : List UInt8) (h : ∀ x ∈ u, x ≠ c) : splitL c u = [u] := by
  have := splitL_skip u [] h
  rw [List.append_nil] at this
  rw [this]
  simp [splitL, consHead]

theorem splitL_part {c : UInt8} (u r : List UInt8) (h : ∀ x ∈ u, x ≠ c) : splitL c (u ++ c :: r) = u :: splitL c r := by
  rw [splitL_skip u _ h, splitL_cons_eq]
  simp [consHead]

/-- the parts of a text at a byte that are not empty -/
def partsL (c : UInt8) (l : List UInt8) : List (List UInt8) := (splitL c l).filter (· ≠ [])

theorem u8_eq {x y : UInt8} (h : x.toNat = y.toNat) : x = y := UInt8.toNat_inj.1 h

/-- what the model's decoder says at a place, about a byte of ASCII -/
theorem dec_at (c : UInt8) (hc : c.toNat < 128) (s : ByteArray) (pos : Nat) (h : pos < s.size) :
    (s.data.toList[pos]? = some c → Utf8.decode s pos = (c.toNat, 1)) ∧
    (s.data.toList[pos]? ≠ some c → (Utf8.decode s pos).1 ≠ c.toNat ∧ ∀ x ∈ (s.data.toList.drop pos).take (Utf8.decode s pos).2, x ≠ c) := by
  rw [decode_N]
  have hl : pos < s.data.toList.length := by rw [← size_list]; exact h
  generalize s.data.toList = l at *
  have g0 : l.getD pos 0 = l[pos] := by simp [List.getD, hl]
  constructor
  · intro e
    rw [List.getElem?_eq_getElem hl] at e
    injection e with e
    rw [g0, e, decodeN_ascii _ _ _ _ _ hc]
  · intro e
    rw [List.getElem?_eq_getElem hl] at e
    have e' : l[pos] ≠ c := fun h => e (by rw [h])
    have en : (l.getD pos 0).toNat ≠ c.toNat := by rw [g0]; exact fun h => e' (u8_eq h)
    have hw := decodeN_conts (l.length - pos) (l.getD pos 0).toNat (l.getD (pos + 1) 0).toNat (l.getD (pos + 2) 0).toNat (l.getD (pos + 3) 0).toNat
    refine ⟨?_, ?_⟩
    · rcases decodeN_cases (l.length - pos) (l.getD pos 0).toNat (l.getD (pos + 1) 0).toNat (l.getD (pos + 2) 0).toNat (l.getD (pos + 3) 0).toNat with ⟨_, q⟩ | ⟨_, _, _, _, q⟩ | ⟨_, _, _, _, _, q⟩ | ⟨q, _⟩ | q
      · rw [q]; exact en
      · rw [q]; dsimp only; omega
      · rw [q]; dsimp only; omega
      · generalize (decodeN (l.length - pos) (l.getD pos 0).toNat (l.getD (pos + 1) 0).toNat (l.getD (pos + 2) 0).toNat (l.getD (pos + 3) 0).toNat).1 = X at q ⊢
        omega
      · rw [q]; dsimp only; omega
    · obtain ⟨w2, w3, w4, w5⟩ := hw
      generalize (decodeN (l.length - pos) (l.getD pos 0).toNat (l.getD (pos + 1) 0).toNat (l.getD (pos + 2) 0).toNat (l.getD (pos + 3) 0).toNat).2 = k at w2 w3 w4 w5 ⊢
      intro x hx hxc
      rw [List.mem_take_iff_getElem] at hx
      obtain ⟨j, hj, hjx⟩ := hx
      have hj' : j < k := by omega
      have hx2 : (l.getD (pos + j) 0) = x := by
        rw [List.getElem_drop] at hjx
        rw [← hjx]
        rw [List.length_drop] at hj
        simp only [List.getD]
        rw [List.getElem?_eq_getElem (by omega)]
        rfl
      have hxn : (l.getD (pos + j) 0).toNat = c.toNat := by rw [hx2, hxc]
      match j, hj' with
      | 0, _ => exact en (by simpa using hxn)
      | 1, _ => have := w2 (by omega); omega
      | 2, _ => have := w3 (by omega); omega
      | 3, _ => have := w4 (by omega); omega
      | j + 4, _ => omega

def spanBa (s : ByteArray) (x : Nat × Nat) : ByteArray := s.extract x.1 x.2

theorem drop_at {l : List UInt8} {n : Nat} {c : UInt8} (h : l[n]? = some c) : l.drop n = c :: l.drop (n + 1) := by
  obtain ⟨h1, h2⟩ := List.getElem?_eq_some_iff.1 h
  rw [List.drop_eq_getElem_cons h1, h2]

/-- the spans, from a place on -/
theorem spans_is (c : UInt8) (hc : c.toNat < 128) (s : ByteArray) : ∀ (f pos : Nat) (st : Option Nat) (acc : List (Nat × Nat)), s.size ≤ f + pos →
    (∀ a, st = some a → a < pos ∧ ∀ x ∈ (s.data.toList.take pos).drop a, x ≠ c) → pos ≤ s.size →
    (closeSpans s (spansFromP (fun r => r == c.toNat) s f pos st acc)).map (spanBa s) = acc.map (spanBa s) ++ (partsL c (s.data.toList.drop (st.getD pos))).map ba
  | f, pos, st, acc, hf, hst, hp => by
    have hsz := size_list s
    by_cases hlt : pos < s.size
    rotate_left
    · have hpe : pos = s.size := by omega
      rw [spansFromP_end _ _ _ _ _ _ hlt]
      cases st with
      | none =>
        simp only [closeSpans, Option.getD_none]
        rw [List.drop_eq_nil_of_le (by omega)]
        simp [partsL, splitL]
      | some a =>
        obtain ⟨ha, hno⟩ := hst a rfl
        simp only [closeSpans, Option.getD_some]
        have e1 : (s.data.toList.take pos).drop a = s.data.toList.drop a := by rw [List.take_of_length_le (by omega)]
        rw [e1] at hno
        rw [partsL, splitL_plain _ hno]
        have hne : s.data.toList.drop a ≠ [] := by
          intro h0
          have := congrArg List.length h0
          rw [List.length_drop] at this
          simp at this
          omega
        simp only [List.map_append, List.map_cons, List.map_nil, spanBa, extract_ba]
        rw [List.filter_cons_of_pos (by simpa using hne)]
        simp only [List.filter_nil, List.map_cons, List.map_nil]
        rw [List.take_of_length_le (by omega)]
    · cases f with
      | zero => omega
      | succ f =>
        have hd := dec_at c hc s pos hlt
        have hw := Lib.width_pos s pos
        have hw2 : (Utf8.decode s pos).2 ≤ s.size - pos := by
          rw [decode_N]
          have hx := decodeN_conts (s.data.toList.length - pos) (s.data.toList.getD pos 0).toNat (s.data.toList.getD (pos + 1) 0).toNat (s.data.toList.getD (pos + 2) 0).toNat (s.data.toList.getD (pos + 3) 0).toNat
          obtain ⟨x1, x2, x3, x4⟩ := hx
          generalize (decodeN (s.data.toList.length - pos) (s.data.toList.getD pos 0).toNat (s.data.toList.getD (pos + 1) 0).toNat (s.data.toList.getD (pos + 2) 0).toNat (s.data.toList.getD (pos + 3) 0).toNat).2 = k at *
          by_cases h4 : 4 ≤ k
          · have := (x3 h4).2; omega
          · by_cases h3 : 3 ≤ k
            · have := (x2 h3).2; omega
            · by_cases h2 : 2 ≤ k
              · have := (x1 h2).2; omega
              · omega
        unfold spansFromP
        rw [if_pos hlt]
        by_cases hb : s.data.toList[pos]? = some c
        · rw [hd.1 hb]
          simp only [beq_self_eq_true, if_true]
          have hdr := drop_at hb
          cases st with
          | none =>
            dsimp only
            rw [spans_is c hc s f (pos + 1) none acc (by omega) (by simp) (by omega)]
            simp only [Option.getD_none]
            rw [hdr, partsL, partsL, splitL_cons_eq, List.filter_cons_of_neg (by simp)]
          | some a =>
            obtain ⟨ha, hno⟩ := hst a rfl
            dsimp only
            rw [spans_is c hc s f (pos + 1) none _ (by omega) (by simp) (by omega)]
            simp only [Option.getD_none, Option.getD_some]
            have e2 : s.data.toList.drop a = (s.data.toList.take pos).drop a ++ c :: s.data.toList.drop (pos + 1) := by
              rw [← hdr, List.drop_take]
              have := (List.take_append_drop (pos - a) (s.data.toList.drop a)).symm
              rw [List.drop_drop, show a + (pos - a) = pos by omega] at this
              exact this
            have hne : (s.data.toList.take pos).drop a ≠ [] := by
              intro h0
              have := congrArg List.length h0
              rw [List.length_drop, List.length_take] at this
              simp at this
              omega
            rw [e2, partsL, partsL, splitL_part _ _ hno, List.filter_cons_of_pos (by simpa using hne)]
            simp only [List.map_append, List.map_cons, List.map_nil, spanBa, extract_ba, List.append_assoc, List.singleton_append]
        · obtain ⟨h1, h2⟩ := hd.2 hb
          rw [if_neg (by simpa using h1)]
          generalize (Utf8.decode s pos).2 = k at *
          have hrest : ∀ a, a ≤ pos → (∀ x ∈ (s.data.toList.take pos).drop a, x ≠ c) → ∀ x ∈ (s.data.toList.take (pos + k)).drop a, x ≠ c := by
            intro a ha hno x hx
            have e3 : (s.data.toList.take (pos + k)).drop a = (s.data.toList.take pos).drop a ++ (s.data.toList.drop pos).take k := by
              rw [List.take_add, List.drop_append_of_le_length (by rw [List.length_take]; omega)]
            rw [e3, List.mem_append] at hx
            rcases hx with hx | hx
            · exact hno x hx
            · exact h2 x hx
          cases st with
          | none =>
            dsimp only
            rw [spans_is c hc s f (pos + k) (some pos) acc (by omega) (by
              intro a ha
              injection ha with ha
              subst ha
              refine ⟨by omega, hrest _ (Nat.le_refl _) fun x hx => ?_⟩
              rw [List.drop_eq_nil_of_le (by rw [List.length_take]; omega)] at hx
              cases hx) (by omega)]
            rfl
          | some a =>
            obtain ⟨ha, hno⟩ := hst a rfl
            dsimp only
            rw [spans_is c hc s f (pos + k) (some a) acc (by omega) (by
              intro a' ha'
              injection ha' with ha'
              subst ha'
              exact ⟨by omega, hrest _ (by omega) hno⟩) (by omega)]
            rfl

theorem goFields_parts (c : UInt8) (hc : c.toNat < 128) (s : ByteArray) : goFieldsP (fun r => r == c.toNat) s = (partsL c s.data.toList).map ba := by
  have := spans_is c hc s s.size 0 none [] (by omega) (by simp) (by omega)
  simp only [List.map_nil, List.nil_append, Option.getD_none, List.drop_zero] at this
  exact this

end Go.Proofs.YtikgnpachlgakaaGreatDoor.Text

namespace Go.Proofs.YtikgnpachlgakaaGreatDoor.Cron
open Go Go.RowKit Go.Proofs.YtikgnpachlgakaaGreatDoor.Text Go.Proofs.YtikgnpachlgakaaGreatDoor.Bits
set_option linter.unusedVariables false

/-- the bits of all items, from some bits on -/
def fieldGo (r : List UInt8 → Option Nat) : List (List UInt8) → Nat → Option Nat
  | [], b => some b
  | x :: xs, b => match r x with
    | none => none
    | some c => fieldGo r xs (b ||| c)

/-- the bits of a field -/
def fieldS (val : List UInt8 → Option Nat) (lo hi : Nat) (l : List UInt8) : Option Nat := fieldGo (rangeS val lo hi) (partsL 44 l) 0

theorem rangeS_lt {val : List UInt8 → Option Nat} {lo hi : Nat} (h : hi ≤ 62) {l : List UInt8} {b : Nat} (e : rangeS val lo hi l = some b) : b < 2 ^ 64 := by
  unfold rangeS at e
  split at e
  · cases e
  · split at e
    · cases e
    · unfold rangeFin at e
      split at e
      · cases e
      · rename_i k b' st _
        unfold bitsOf at e
        split at e
        · cases e
        · split at e
          · cases e
          · split at e
            · cases e
            · split at e
              · cases e
              · injection e with e
                rw [← e]
                exact Nat.or_lt_two_pow (steps_lt _ _ _) (by split <;> decide)

def FieldAnswers (w : World) (r : Option Nat) (e : Ending) (w' : World) : Prop :=
  (match r with
    | some b => e = .returned (.tuple #[.int .u64 b, .nilIface])
    | none => ∃ (n : Int) (t : TypeId) (x : Value), e = .returned (.tuple #[.int .u64 n, .iface t x])) ∧ Below w.heap.size w w'

theorem comma_any (x : Nat) (W : World) : Calls Tryz.prog 59 #[.int .i32 (x : Int)] W fun e w' => e = .returned (.bool (x == 44)) ∧ Below W.heap.size W w' := by
  go_enter Tryz.func59, Tryz.ntmps59
  go_wp2
  go_ret
  refine ⟨?_, Below.refl _ _⟩
  have : ((x : Int) == 44) = (x == 44) := by
    rw [Bool.eq_iff_iff]
    simp
    omega
  simp [this]

theorem comma_pays (w : World) : Go.Proofs.PredGrows Tryz.prog 59 #[] (fun r => r == 44) w := fun W x hx hb => comma_any x W

theorem fieldsFunc_any (s : ByteArray) (hs : s.size ≤ 4294967296) (w : World) :
    Calls Tryz.prog 58 #[.string s, .func (.func 59) #[] #[]] w fun e w' => ∃ g, e = .returned (.slice (some ⟨g, 0, none⟩) (partsL 44 s.data.toList).length (partsL 44 s.data.toList).length) ∧
      Texts w' g (partsL 44 s.data.toList).length (partsL 44 s.data.toList).length ((partsL 44 s.data.toList).map ba) ∧ Below w.heap.size w w' := by
  have hp := goFields_parts 44 (by decide) s
  have hc : (44 : UInt8).toNat = 44 := rfl
  rw [hc] at hp
  have hl : (Lib.goFieldsP (fun r => r == 44) s).length = (partsL 44 s.data.toList).length := by rw [hp, List.length_map]
  refine (Tryz.strings_FieldsFunc_grows 59 #[] (enters_of Tryz.func59 (by kernel_rfl) rfl) (fun r => r == 44) s w hs (comma_pays w)).mono ?_
  rintro e w' ⟨g, rfl, hg, hown, hb⟩
  rw [hl] at hown ⊢
  have hlt := (hown.lt g rfl).2
  refine ⟨g, rfl, ⟨by rw [List.length_map], Nat.le_refl _, hlt, fun i x hx => ?_⟩, hb⟩
  have hi : i < (partsL 44 s.data.toList).length := by
    have := (List.getElem?_eq_some_iff.1 hx).1
    rwa [List.length_map] at this
  rw [hown.cellAt i (by omega), hp, List.getElem?_map, hx]
  rfl

set_option maxRecDepth 100000 in
set_option maxHeartbeats 1000000 in
theorem getFieldA (m : Option Nat) (val : List UInt8 → Option Nat) (Inv : World → Prop) (hR : Reads m val Inv) (lo hi : Nat) (s : ByteArray) (hs : s.size ≤ 4294967296) (h1 : lo ≤ hi) (h2 : hi ≤ 62) (w : World) (hI : Inv w) :
    Calls Tryz.prog 35 #[.string s, .agg #[.int .u64 lo, .int .u64 hi, .map m]] w (FieldAnswers w (fieldS val lo hi s.data.toList)) := by
  unfold fieldS
  have HF := Lib.hid (fun w' => fieldsFunc_any s hs w')
  have hsz : ∀ x ∈ partsL 44 s.data.toList, (ba x).size ≤ 4294967296 := by
    intro x hx
    have := splitL_size 44 _ x (List.mem_filter.1 hx |>.1)
    rw [← size_list] at this
    rw [ba_size]
    omega
  have hlen : (partsL 44 s.data.toList).length ≤ 4294967297 := by
    have := List.length_filter_le (· ≠ []) (splitL 44 s.data.toList)
    have h2 := splitL_len 44 s.data.toList
    rw [← size_list] at h2
    unfold partsL
    omega
  have HSZ := Lib.hid hsz
  clear hsz
  generalize partsL 44 s.data.toList = ps at *
  go_enter Tryz.func35, Tryz.ntmps35
  go_wp2_with (go_at_call 58; go_must (refine (HF.out _).mono ?_); rintro e w1 ⟨g, rfl, ht, hb1⟩)
  have hbx : w1.heap[w.heap.size]? = some (.cells #[.int .u64 lo, .int .u64 hi, .map m] 81 (0, 0)) := (hb1.block w.heap.size (by simp)).trans (heap_alloc_new w _)
  have hB1 : Below w.heap.size w w1 := ((Below.refl _ _).alloc (Nat.le_refl _) _).trans (hb1.mono (by simp))
  have HT := Lib.hid ht
  have HX0 := Lib.hid (show w1.cell? ⟨w.heap.size, 0, none⟩ = some (.int .u64 lo) from cell_of_row _ _ _ _ _ _ hbx)
  have HX1 := Lib.hid (show w1.cell? ⟨w.heap.size, 1, none⟩ = some (.int .u64 hi) from cell_of_row _ _ _ _ _ _ hbx)
  have HX2 := Lib.hid (show w1.cell? ⟨w.heap.size, 2, none⟩ = some (.map m) from cell_of_row _ _ _ _ _ _ hbx)
  have hz1 : w.heap.size < w1.heap.size := by have := hb1.size; simp at this; omega
  have HB1 := Lib.hid hB1
  clear hbx hB1 hb1 ht HF
  go_loopw [6, 16] (fun v6 v16 wr => ∃ i acc : Nat, v16 = .int .i64 i ∧ v6 = .int .u64 acc ∧ i ≤ ps.length ∧ acc < 2 ^ 64 ∧ Hid (fieldGo (rangeS val lo hi) (ps.drop i) acc = fieldGo (rangeS val lo hi) ps 0) ∧ Below w1.heap.size w1 wr) (fun _ v16 _ => ps.length - (intOf v16).toNat)
  case atStart => exact ⟨0, 0, rfl, rfl, by omega, by decide, Lib.hid rfl, Below.refl _ _⟩
  case round =>
    obtain ⟨i, acc, rfl, rfl, hil, hacc, HG, hbr⟩ := hrel
    have hx0 := (hbr.cell (p := ⟨w.heap.size, 0, none⟩) hz1).trans HX0.out
    have hx1 := (hbr.cell (p := ⟨w.heap.size, 1, none⟩) hz1).trans HX1.out
    have hx2 := (hbr.cell (p := ⟨w.heap.size, 2, none⟩) hz1).trans HX2.out
    have hBr := below_of_le HB1.out hbr
    have hIr : Inv wr := hR.keeps hI hBr
    by_cases hlt : i < ps.length
    · have hc : wr.cell? ⟨g, i, none⟩ = some (.string (ba ps[i])) := (HT.out.below hbr).at_ i _ (by simp [hlt])
      have hdr : ps.drop i = ps[i] :: ps.drop (i + 1) := List.drop_eq_getElem_cons hlt
      have HGo := HG.out
      rw [hdr] at HGo
      have hRA := rangeA m val Inv hR lo hi (ba ps[i]) (HSZ.out _ (List.getElem_mem hlt)) h1 h2 wr hIr
      rw [ba_list] at hRA
      cases hr : rangeS val lo hi ps[i] with
      | none =>
        have HN : Hid (fieldGo (rangeS val lo hi) ps 0 = none) := Lib.hid (by rw [← HGo, fieldGo, hr])
        rw [hr] at hRA
        have HRA := Lib.hid hRA
        clear hRA hr HGo hdr
        go_wp2_with (go_at_call 60; go_must (refine HRA.out.mono ?_); rintro e w2 ⟨⟨t, x, rfl⟩, hb2⟩)
        go_ret2
        refine ⟨?_, below_of_le hBr hb2⟩
        rw [HN.out]
        exact ⟨_, t, x, rfl⟩
      | some b =>
        have hb64 := rangeS_lt h2 hr
        have HN : Hid (fieldGo (rangeS val lo hi) (ps.drop (i + 1)) (acc ||| b) = fieldGo (rangeS val lo hi) ps 0) := Lib.hid (by rw [← HGo, fieldGo, hr])
        rw [hr] at hRA
        have HRA := Lib.hid hRA
        have hor : bits .or .u64 (acc : Int) (b : Int) = ((acc ||| b : Nat) : Int) := or_u64 hacc hb64
        clear hRA hr HGo hdr
        go_wp2_with (go_at_call 60; go_must (refine HRA.out.mono ?_); rintro e w2 ⟨rfl, hb2⟩)
        go_roundw
        case rel => exact ⟨i + 1, acc ||| b, by go_num, by first | rfl | (simp [hor]), by omega, Nat.or_lt_two_pow hacc hb64, HN, below_of_le hbr hb2⟩
        case measure => simp [intOf]; omega
    · have hie : i = ps.length := by omega
      have HN : Hid (fieldGo (rangeS val lo hi) ps 0 = some acc) := Lib.hid (by rw [← HG.out, hie, List.drop_length]; rfl)
      go_wp2_with fail
      go_ret2
      refine ⟨?_, hBr⟩
      rw [HN.out]
      exact rfl
end Go.Proofs.YtikgnpachlgakaaGreatDoor.Cron

namespace Go.Proofs.YtikgnpachlgakaaGreatDoor.Cron
open Go Go.RowKit Go.Proofs.YtikgnpachlgakaaGreatDoorW.PrintWords Go.Proofs.YtikgnpachlgakaaGreatDoorW.PrintMore Go.Proofs.YtikgnpachlgakaaGreatDoor.Pr Go.Proofs.YtikgnpachlgakaaGreatDoor.Text
set_option linter.unusedVariables false

/-- a number of the reference and the program's: the same up to 2^40, from there on not told apart -/
def Rel (r : Option Nat) (n : Int) : Prop := (∃ m : Nat, r = some m ∧ n = min (m : Int) 1099511627776) ∨ (r = none ∧ n = 1099511627776)

/-- what a reading of the reference says of the program's -/
structure ValIs (r : Option Nat) (n v : Int) : Prop where
  lo : 0 ≤ n
  hi : n ≤ 1099511627776
  vs : v = 0 ∨ v = 1 ∨ v = 2
  fine : v = 1 → Rel r n
  bad : v = 0 → r = none ∧ n = 0
  zero : v = 2 → n = 0 → r = some 0

def digitsFold (n : Nat) : List UInt8 → Option Nat
  | [] => some n
  | c :: r => if 48 ≤ c.toNat ∧ c.toNat ≤ 57 then digitsFold (min (10 * n + (c.toNat - 48)) 1099511627776) r else none

theorem digitsFold_le : ∀ (l : List UInt8) (n m : Nat), n ≤ 1099511627776 → digitsFold n l = some m → m ≤ 1099511627776
  | [], n, m, h, e => by injection e with e; omega
  | c :: r, n, m, h, e => by
    unfold digitsFold at e
    split at e
    · exact digitsFold_le r _ m (by omega) e
    · cases e

theorem digitsFold_top : ∀ (l : List UInt8) (m : Nat), digitsFold 1099511627776 l = some m → m = 1099511627776
  | [], m, e => by injection e with e; omega
  | c :: r, m, e => by
    unfold digitsFold at e
    split at e
    · rw [Nat.min_eq_right (by omega)] at e
      exact digitsFold_top r m e
    · cases e

theorem fold_none : ∀ (l : List UInt8) (acc : Nat), digitsFold (min acc 1099511627776) l = none → ∀ u, Lib.parseUint10 acc l ≠ .ok u
  | [], acc, e, u => by cases e
  | c :: r, acc, e, u => by
    unfold digitsFold at e
    unfold Lib.parseUint10
    by_cases h : 48 ≤ c.toNat ∧ c.toNat ≤ 57
    · rw [if_pos h] at e ⊢
      split
      · intro x; cases x
      · split
        · intro x; cases x
        · apply fold_none r
          rw [← e]
          congr 1
          omega
    · rw [if_neg h]
      intro x; cases x

theorem fold_some : ∀ (l : List UInt8) (acc n : Nat), digitsFold (min acc 1099511627776) l = some n → (∃ u, Lib.parseUint10 acc l = .ok u ∧ n = min u 1099511627776) ∨ (Lib.parseUint10 acc l = .range ∧ n = 1099511627776)
  | [], acc, n, e => by
    left
    injection e with e
    exact ⟨acc, rfl, e.symm⟩
  | c :: r, acc, n, e => by
    unfold digitsFold at e
    unfold Lib.parseUint10
    by_cases h : 48 ≤ c.toNat ∧ c.toNat ≤ 57
    · rw [if_pos h] at e ⊢
      split
      · right
        refine ⟨rfl, digitsFold_top r n ?_⟩
        rw [← e]
        congr 1
        omega
      · split
        · right
          refine ⟨rfl, digitsFold_top r n ?_⟩
          rw [← e]
          congr 1
          omega
        · apply fold_some r
          rw [← e]
          congr 1
          omega
    · rw [if_neg h] at e
      cases e

theorem parse_zero : ∀ (l : List UInt8) (acc : Nat), Lib.parseUint10 acc l = .ok 0 → acc = 0 ∧ ∀ c ∈ l, c.toNat = 48
  | [], acc, h => by
    unfold Lib.parseUint10 at h
    injection h with h
    exact ⟨h, by simp⟩
  | c :: r, acc, h => by
    unfold Lib.parseUint10 at h
    split at h
    · split at h
      · cases h
      · split at h
        · cases h
        · have := parse_zero r _ h
          refine ⟨by omega, ?_⟩
          intro x hx
          rcases List.mem_cons.1 hx with rfl | hx
          · omega
          · exact this.2 x hx
    · cases h

theorem mp_plain {c : UInt8} {r : List UInt8} (h43 : c.toNat ≠ 43) (h45 : c.toNat ≠ 45) : mp (c :: r) = match Lib.parseUint10 0 (c :: r) with | .ok u => if u < 9223372036854775808 then some u else none | _ => none := by
  have hm : Lib.parseMag (c :: r) = Lib.parseUint10 0 (c :: r) := by unfold Lib.parseMag; rw [if_neg (by simp)]
  unfold mp Lib.atoiAll
  simp only [h43, h45, or_self, if_false, hm]
  rcases e : Lib.parseUint10 0 (c :: r) with u | _ | _
  · simp only [not_false_eq_true, true_and, false_and, if_false]
    by_cases hu : 9223372036854775808 ≤ u
    · rw [if_pos hu, if_neg (by omega)]
    · rw [if_neg hu, if_pos (by omega)]
      simp
  · rfl
  · rfl

theorem mp_rel {c : UInt8} {r : List UInt8} {n : Nat} (h43 : c.toNat ≠ 43) (h45 : c.toNat ≠ 45) (e : digitsFold 0 (c :: r) = some n) : Rel (mp (c :: r)) n := by
  rw [mp_plain h43 h45]
  rcases fold_some (c :: r) 0 n (by simpa using e) with ⟨u, hu, hn⟩ | ⟨hu, hn⟩
  · rw [hu]
    by_cases h : u < 9223372036854775808
    · left
      exact ⟨u, by simp only [if_pos h], by omega⟩
    · right
      exact ⟨by simp only [if_neg h], by omega⟩
  · rw [hu]
    exact .inr ⟨rfl, by omega⟩

theorem mp_bad {c : UInt8} {r : List UInt8} (h43 : c.toNat ≠ 43) (h45 : c.toNat ≠ 45) (e : digitsFold 0 (c :: r) = none) : mp (c :: r) = none := by
  rw [mp_plain h43 h45]
  have := fold_none (c :: r) 0 (by simpa using e)
  split
  · rename_i u hu; exact absurd hu (this u)
  · rfl

theorem parseMag_bad {r : List UInt8} (e : r = [] ∨ digitsFold 0 r = none) : ∀ u, Lib.parseMag r ≠ .ok u := by
  intro u h
  unfold Lib.parseMag at h
  split at h
  · cases h
  · rename_i hne
    rcases e with e | e
    · exact hne e
    · exact fold_none r 0 (by simpa using e) u h

theorem mp_plus {r : List UInt8} (e : r = [] ∨ digitsFold 0 r = none) : mp (43 :: r) = none := by
  unfold mp
  rw [Lib.atoiAll_plus]
  have := parseMag_bad e
  rcases h : Lib.parseMag r with u | _ | _
  · exact absurd h (this u)
  · rfl
  · rfl

theorem mp_minus {r : List UInt8} (e : r = [] ∨ ¬ ∀ c ∈ r, c.toNat = 48) : mp (45 :: r) = none := by
  unfold mp
  rw [Lib.atoiAll_minus]
  rcases h : Lib.parseMag r with u | _ | _
  rotate_left
  · rfl
  · rfl
  · skip
    unfold Lib.signed
    split
    · rename_i v hv
      have hu : u ≠ 0 := by
        rintro rfl
        unfold Lib.parseMag at h
        split at h
        · cases h
        · rename_i hne
          rcases e with e | e
          · exact hne e
          · exact e (parse_zero r 0 h).2
      simp only at hv
      split at hv
      · cases hv
      · injection hv with hv
        rw [if_neg (by omega)]
    · rfl

theorem parse_of_zero {r : List UInt8} (hr : r ≠ []) (e : digitsFold 0 r = some 0) : Lib.parseMag r = .ok 0 := by
  unfold Lib.parseMag
  rw [if_neg hr]
  rcases fold_some r 0 0 (by simpa using e) with ⟨u, hu, hn⟩ | ⟨_, hn⟩
  · rw [hu, show u = 0 by omega]
  · omega

theorem mp_plus_zero {r : List UInt8} (hr : r ≠ []) (e : digitsFold 0 r = some 0) : mp (43 :: r) = some 0 := by
  unfold mp
  rw [Lib.atoiAll_plus, parse_of_zero hr e]
  rfl

theorem mp_minus_zero {r : List UInt8} (hr : r ≠ []) (e : digitsFold 0 r = some 0) : mp (45 :: r) = some 0 := by
  unfold mp
  rw [Lib.atoiAll_minus, parse_of_zero hr e]
  rfl

def pairOf (r : List UInt8) (v : Int) : Int × Int := if r = [] then (0, 0) else match digitsFold 0 r with
  | some m => ((m : Int), v)
  | none => (0, 0)

/-! ### the printed loops -/
theorem isDigit_f (x : Int) : spec_isDigit.f x = some (decide (48 ≤ x ∧ x ≤ 57)) := by
  unfold spec_isDigit.f
  by_cases h : x ≥ 48
  · rw [if_pos h]; simp [show 48 ≤ x from h]
  · rw [if_neg h]; simp [show ¬ 48 ≤ x from h]

theorem number_l0 (s : ByteArray) (hs : s.size ≤ 281474976710655) (v : Int) : ∀ (d k : Nat) (n i : Nat), n ≤ 1099511627776 → i ≤ s.size → s.size - i = d → d < k →
    spec_CronNumber.l0 k s v n (s.size : Int) i = some (match digitsFold n (s.data.toList.drop i) with | some m => ((m : Int), v) | none => (0, 0)) := by
  intro d
  induction d with
  | zero =>
    intro k n i hn hi hd hk
    obtain ⟨k, rfl⟩ : ∃ m, k = m + 1 := ⟨k - 1, by omega⟩
    simp only [spec_CronNumber.l0]
    rw [if_neg (by omega), List.drop_eq_nil_of_le (by rw [← size_list]; omega)]
    rfl
  | succ d ih =>
    intro k n i hn hi hd hk
    obtain ⟨k, rfl⟩ : ∃ m, k = m + 1 := ⟨k - 1, by omega⟩
    have hlt : i < s.data.toList.length := by rw [← size_list]; omega
    have hw : wrap64 ((i : Int) + 1) = ((i + 1 : Nat) : Int) := by rw [wrap_in (by omega) (by omega)]; omega
    simp only [spec_CronNumber.l0]
    rw [if_pos (by omega), if_pos (by omega), if_pos (by omega), bt_list s i hlt, isDigit_f, List.drop_eq_getElem_cons hlt]
    simp only [Option.bind_some]
    rw [digitsFold]
    by_cases h : 48 ≤ (s.data.toList[i]).toNat ∧ (s.data.toList[i]).toNat ≤ 57
    · rw [if_pos h, if_pos (decide_eq_true ⟨by omega, by omega⟩), hw]
      have hv : mn (wrap64 (wrap64 (10 * (n : Int)) + (((s.data.toList[i]).toNat : Int) - 48) % 256)) 1099511627776 = ((min (10 * n + ((s.data.toList[i]).toNat - 48)) 1099511627776 : Nat) : Int) := by
        have e1 : wrap64 (10 * (n : Int)) = 10 * n := wrap_in (by omega) (by omega)
        have e2 : (((s.data.toList[i]).toNat : Int) - 48) % 256 = ((s.data.toList[i]).toNat : Int) - 48 := by omega
        rw [e1, e2, wrap_in (by omega) (by omega)]
        unfold mn
        split <;> omega
      rw [hv]
      exact ih k _ (i + 1) (by omega) (by omega) (by omega) (by omega)
    · rw [if_neg h, decide_eq_false (by omega), if_neg (by decide)]

theorem zeros_l0 (s : ByteArray) (hs : s.size ≤ 281474976710655) : ∀ (d k : Nat) (i : Nat), i ≤ s.size → s.size - i = d → d < k →
    spec_cronZeros.l0 k s (s.size : Int) i = some (decide (∀ c ∈ s.data.toList.drop i, c.toNat = 48)) := by
  intro d
  induction d with
  | zero =>
    intro k i hi hd hk
    obtain ⟨k, rfl⟩ : ∃ m, k = m + 1 := ⟨k - 1, by omega⟩
    simp only [spec_cronZeros.l0]
    rw [if_neg (by omega), List.drop_eq_nil_of_le (by rw [← size_list]; omega)]
    simp
  | succ d ih =>
    intro k i hi hd hk
    obtain ⟨k, rfl⟩ : ∃ m, k = m + 1 := ⟨k - 1, by omega⟩
    have hlt : i < s.data.toList.length := by rw [← size_list]; omega
    have hw : wrap64 ((i : Int) + 1) = ((i + 1 : Nat) : Int) := by rw [wrap_in (by omega) (by omega)]; omega
    simp only [spec_cronZeros.l0]
    rw [if_pos (by omega), if_pos (by omega), if_pos (by omega), bt_list s i hlt, List.drop_eq_getElem_cons hlt]
    by_cases h : (s.data.toList[i]).toNat = 48
    · rw [if_pos (by omega), hw, ih k (i + 1) (by omega) (by omega) (by omega)]
      congr 1
      simp only [List.forall_mem_cons, h, true_and]
    · rw [if_neg (by omega)]
      congr 1
      simp only [List.forall_mem_cons, h, false_and, decide_false]

theorem number_j1 (s : ByteArray) (hs : s.size ≤ 281474976710655) (v : Int) (k : Nat) (hk : s.size + 2 < k) :
    spec_CronNumber.j1 k s v = some (pairOf s.data.toList v) := by
  obtain ⟨k, rfl⟩ : ∃ m, k = m + 1 := ⟨k - 1, by omega⟩
  simp only [spec_CronNumber.j1]
  rw [toList_data]
  by_cases h : s.data.toList = []
  · rw [if_pos h, pairOf, if_pos h]
  · rw [if_neg h, pairOf, if_neg h]
    have := number_l0 s hs v s.size k 0 0 (by omega) (by omega) (by omega) (by omega)
    rw [show ((0 : Nat) : Int) = 0 from rfl, List.drop_zero] at this
    exact this

/-- CronNumber's answer, held against mp. -/
theorem number_is (s : ByteArray) (hs : s.size ≤ 4294967296) : ∃ k n v, spec_CronNumber.f k s = some (n, v) ∧ ValIs (mp s.data.toList) n v := by
  cases hl : s.data.toList with
  | nil =>
    have h0 : s.size = 0 := by rw [size_list, hl]; rfl
    refine ⟨s.size + 5, 0, 0, ?_, ⟨by omega, by omega, .inl rfl, fun h => by omega, fun _ => ⟨rfl, rfl⟩, fun h => by omega⟩⟩
    unfold spec_CronNumber.f
    rw [if_neg (by omega)]
    simp only [spec_CronNumber.j0, Bool.false_eq_true, if_false]
    rw [number_j1 s (by omega) 1 _ (by omega), hl]; rfl
  | cons c r =>
    have h0 : s.size = r.length + 1 := by rw [size_list, hl]; rfl
    have hb : bt s 0 = (c.toNat : Int) := by
      have := bt_list s 0 (by rw [hl]; simp)
      rw [show ((0 : Nat) : Int) = 0 from rfl] at this
      rw [this]
      simp [hl]
    have he : (s.extract 1 s.size).data.toList = r := by
      rw [extract_list, size_list, List.take_length, hl]; rfl
    have hes : (s.extract 1 s.size).size = r.length := by rw [size_list, he]
    by_cases h43 : c.toNat = 43
    · have hc : c = 43 := UInt8.toNat_inj.1 h43
      subst hc
      have key : ∀ k, s.size + 5 ≤ k → spec_CronNumber.f k s = some (pairOf r 2) := by
        intro k hk
        obtain ⟨k, rfl⟩ : ∃ m, k = m + 1 := ⟨k - 1, by omega⟩
        unfold spec_CronNumber.f
        rw [if_pos (by omega), if_pos (by omega), hb, if_pos (by rfl)]
        simp only [spec_CronNumber.j0, if_true]
        rw [if_pos (by omega), number_j1 _ (by omega) 2 _ (by omega), he]
      by_cases hr : r = []
      · exact ⟨s.size + 5, 0, 0, by rw [key _ (Nat.le_refl _), pairOf, if_pos hr], ⟨by omega, by omega, .inl rfl, fun h => by omega, fun _ => ⟨mp_plus (.inl hr), rfl⟩, fun h => by omega⟩⟩
      · cases hd : digitsFold 0 r with
        | none => exact ⟨s.size + 5, 0, 0, by rw [key _ (Nat.le_refl _), pairOf, if_neg hr, hd], ⟨by omega, by omega, .inl rfl, fun h => by omega, fun _ => ⟨mp_plus (.inr hd), rfl⟩, fun h => by omega⟩⟩
        | some m =>
          have := digitsFold_le r 0 m (by omega) hd
          refine ⟨s.size + 5, m, 2, by rw [key _ (Nat.le_refl _), pairOf, if_neg hr, hd], ⟨by omega, by omega, .inr (.inr rfl), fun h => by omega, fun h => by omega, fun _ h0 => ?_⟩⟩
          obtain rfl : m = 0 := by omega
          exact mp_plus_zero hr hd
    · by_cases h45 : c.toNat = 45
      · have hc : c = 45 := UInt8.toNat_inj.1 h45
        subst hc
        have hz : ∀ k, s.size + 5 ≤ k → spec_cronZeros.f k (s.extract 1 s.size) = some (decide (∀ c ∈ r, c.toNat = 48)) := by
          intro k hk
          unfold spec_cronZeros.f
          have := zeros_l0 (s.extract 1 s.size) (by omega) _ k 0 (by omega) rfl (by omega)
          rw [show ((0 : Nat) : Int) = 0 from rfl, List.drop_zero, he] at this
          exact this
        by_cases hall : ∀ c ∈ r, c.toNat = 48
        · have key : ∀ k, s.size + 5 ≤ k → spec_CronNumber.f k s = some (pairOf r 2) := by
            intro k hk
            have hzk := hz k hk
            obtain ⟨k, rfl⟩ : ∃ m, k = m + 1 := ⟨k - 1, by omega⟩
            unfold spec_CronNumber.f
            rw [if_pos (by omega), if_pos (by omega), hb, if_neg (by omega), if_pos (by rfl), if_pos (by omega), hzk, decide_eq_true hall]
            simp only [Option.bind_some, spec_CronNumber.j0, if_true]
            rw [if_pos (by omega), number_j1 _ (by omega) 2 _ (by omega), he]
          by_cases hr : r = []
          · exact ⟨s.size + 5, 0, 0, by rw [key _ (Nat.le_refl _), pairOf, if_pos hr], ⟨by omega, by omega, .inl rfl, fun h => by omega, fun _ => ⟨mp_minus (.inl hr), rfl⟩, fun h => by omega⟩⟩
          · cases hd : digitsFold 0 r with
            | none =>
              exfalso
              have : ∀ l : List UInt8, (∀ c ∈ l, c.toNat = 48) → ∀ n, digitsFold n l ≠ none := by
                intro l
                induction l with
                | nil => intro _ n h; cases h
                | cons x t ih =>
                  intro hx n h
                  unfold digitsFold at h
                  have := hx x (by simp)
                  rw [if_pos (by omega)] at h
                  exact ih (fun c hc => hx c (by simp [hc])) _ h
              exact this r hall 0 hd
            | some m =>
              have := digitsFold_le r 0 m (by omega) hd
              refine ⟨s.size + 5, m, 2, by rw [key _ (Nat.le_refl _), pairOf, if_neg hr, hd], ⟨by omega, by omega, .inr (.inr rfl), fun h => by omega, fun h => by omega, fun _ h0 => ?_⟩⟩
              obtain rfl : m = 0 := by omega
              exact mp_minus_zero hr hd
        · have key : ∀ k, s.size + 5 ≤ k → spec_CronNumber.f k s = some (0, 0) := by
            intro k hk
            have hzk := hz k hk
            obtain ⟨k, rfl⟩ : ∃ m, k = m + 1 := ⟨k - 1, by omega⟩
            unfold spec_CronNumber.f
            rw [if_pos (by omega), if_pos (by omega), hb, if_neg (by omega), if_pos (by rfl), if_pos (by omega), hzk, decide_eq_false hall]
            simp only [Option.bind_some, spec_CronNumber.j0, Bool.false_eq_true, if_false]
            rw [number_j1 s (by omega) 1 _ (by omega), hl]
            rfl
          exact ⟨s.size + 5, 0, 0, key _ (Nat.le_refl _), ⟨by omega, by omega, .inl rfl, fun h => by omega, fun _ => ⟨mp_minus (.inr hall), rfl⟩, fun h => by omega⟩⟩
      · have key : ∀ k, s.size + 5 ≤ k → spec_CronNumber.f k s = some (pairOf (c :: r) 1) := by
          intro k hk
          obtain ⟨k, rfl⟩ : ∃ m, k = m + 1 := ⟨k - 1, by omega⟩
          unfold spec_CronNumber.f
          rw [if_pos (by omega), if_pos (by omega), hb, if_neg (by omega), if_neg (by omega)]
          simp only [spec_CronNumber.j0, Bool.false_eq_true, if_false]
          rw [number_j1 s (by omega) 1 _ (by omega), hl]
        cases hd : digitsFold 0 (c :: r) with
        | none => exact ⟨s.size + 5, 0, 0, by rw [key _ (Nat.le_refl _), pairOf, if_neg (by simp), hd], ⟨by omega, by omega, .inl rfl, fun h => by omega, fun _ => ⟨mp_bad h43 h45 hd, rfl⟩, fun h => by omega⟩⟩
        | some m =>
          have := digitsFold_le (c :: r) 0 m (by omega) hd
          exact ⟨s.size + 5, m, 1, by rw [key _ (Nat.le_refl _), pairOf, if_neg (by simp), hd], ⟨by omega, by omega, .inr (.inl rfl), fun _ => mp_rel h43 h45 hd, fun h => by omega, fun h => by omega⟩⟩

/-- CronStep's answer: fine: the number itself, from 1 to below 2^40; bad: no number, or 0. -/
theorem step_is (s : ByteArray) (hs : s.size ≤ 4294967296) : ∃ k n v, spec_CronStep.f k s = some (n, v) ∧ (v = 0 ∨ v = 1 ∨ v = 2) ∧
    (v = 1 → ∃ m : Nat, mp s.data.toList = some m ∧ n = m ∧ 1 ≤ m ∧ m < 1099511627776) ∧ (v = 0 → mp s.data.toList = none ∨ mp s.data.toList = some 0) := by
  obtain ⟨k, n, v, hk, hv⟩ := number_is s hs
  by_cases h0 : v = 0
  · subst h0
    refine ⟨k + 1, 0, 0, ?_, .inl rfl, fun h => by omega, fun _ => .inl (hv.bad rfl).1⟩
    unfold spec_CronStep.f
    rw [spec_CronNumber.mono s k _ hk]
    simp [spec_CronStep.j0]
  · by_cases hn : n = 0
    · subst hn
      refine ⟨k + 1, 0, 0, ?_, .inl rfl, fun h => by omega, fun _ => ?_⟩
      · unfold spec_CronStep.f
        rw [spec_CronNumber.mono s k _ hk]
        simp [spec_CronStep.j0, h0]
      · by_cases h1 : v = 1
        · rcases hv.fine h1 with ⟨m, hm, he⟩ | ⟨hm, he⟩
          · right
            rw [hm]
            congr 1
            omega
          · omega
        · right
          rcases hv.vs with h | h | h
          · exact absurd h h0
          · exact absurd h h1
          · exact hv.zero h rfl
    · by_cases hh : n = 1099511627776
      · refine ⟨k + 1, 0, 2, ?_, .inr (.inr rfl), fun h => by omega, fun h => by omega⟩
        unfold spec_CronStep.f
        rw [spec_CronNumber.mono s k _ hk]
        simp only [Option.bind_some, if_neg h0, spec_CronStep.j0]
        rw [if_neg (by simpa using hn), if_pos hh]
      · refine ⟨k + 1, n, v, ?_, hv.vs, fun h1 => ?_, fun h => absurd h h0⟩
        · unfold spec_CronStep.f
          rw [spec_CronNumber.mono s k _ hk]
          simp only [Option.bind_some, if_neg h0, spec_CronStep.j0]
          rw [if_neg (by simpa using hn), if_neg hh]
        · have := hv.lo
          rcases hv.fine h1 with ⟨m, hm, he⟩ | ⟨hm, he⟩
          · exact ⟨m, hm, by omega, by omega, by omega⟩
          · omega

end Go.Proofs.YtikgnpachlgakaaGreatDoor.Cron
