/- The pieces that strings.FieldsFunc finds between commas are the parts of the text at the byte 44 that are not empty (no program in sight). -/
import Derived.Test.YtikgnpachlgakaaDoorSplit
import Derived.Lib.FieldsP
import Derived.Lib.SpaceUEq
namespace Go.Proofs.YtikgnpachlgakaaDoor.Text
open Go Go.Lib
set_option linter.unusedVariables false

theorem splitL_skip {c : UInt8} : ∀ (u r : List UInt8), (∀ x ∈ u, x ≠ c) → splitL c (u ++ r) = consHead u (splitL c r)
  | [], r, _ => (consHead_nil (splitL_ne c r)).symm
  | x :: u, r, h => by
    rw [List.cons_append, splitL_cons_ne _ (h x (by simp)), splitL_skip u r fun y hy => h y (by simp [hy])]
    cases splitL c r with
    | nil => rfl
    | cons a t => rfl

theorem splitL_plain {c : UInt8} (u : List UInt8) (h : ∀ x ∈ u, x ≠ c) : splitL c u = [u] := by
  have := splitL_skip u [] h
  rw [List.append_nil] at this
  rw [this]
  simp [splitL, consHead]

theorem splitL_part {c : UInt8} (u r : List UInt8) (h : ∀ x ∈ u, x ≠ c) : splitL c (u ++ c :: r) = u :: splitL c r := by
  rw [splitL_skip u _ h, splitL_cons_eq]
  simp [consHead]

/-- the parts of a text at a byte that are not empty -/
def partsL (c : UInt8) (l : List UInt8) : List (List UInt8) := (splitL c l).filter (· ≠ [])

theorem u8_eq {x y : UInt8} (h : x.toNat = y.toNat) : x = y := UInt8.toNat_inj.1 h

/-- what the model's decoder says at a place, about a byte of ASCII -/
theorem dec_at (c : UInt8) (hc : c.toNat < 128) (s : ByteArray) (pos : Nat) (h : pos < s.size) :
    (s.data.toList[pos]? = some c → Utf8.decode s pos = (c.toNat, 1)) ∧
    (s.data.toList[pos]? ≠ some c → (Utf8.decode s pos).1 ≠ c.toNat ∧ ∀ x ∈ (s.data.toList.drop pos).take (Utf8.decode s pos).2, x ≠ c) := by
  rw [decode_N]
  have hl : pos < s.data.toList.length := by rw [← size_list]; exact h
  generalize s.data.toList = l at *
  have g0 : l.getD pos 0 = l[pos] := by simp [List.getD, hl]
  constructor
  · intro e
    rw [List.getElem?_eq_getElem hl] at e
    injection e with e
    rw [g0, e, decodeN_ascii _ _ _ _ _ hc]
  · intro e
    rw [List.getElem?_eq_getElem hl] at e
    have e' : l[pos] ≠ c := fun h => e (by rw [h])
    have en : (l.getD pos 0).toNat ≠ c.toNat := by rw [g0]; exact fun h => e' (u8_eq h)
    have hw := decodeN_conts (l.length - pos) (l.getD pos 0).toNat (l.getD (pos + 1) 0).toNat (l.getD (pos + 2) 0).toNat (l.getD (pos + 3) 0).toNat
    refine ⟨?_, ?_⟩
    · rcases decodeN_cases (l.length - pos) (l.getD pos 0).toNat (l.getD (pos + 1) 0).toNat (l.getD (pos + 2) 0).toNat (l.getD (pos + 3) 0).toNat with ⟨_, q⟩ | ⟨_, _, _, _, q⟩ | ⟨_, _, _, _, _, q⟩ | ⟨q, _⟩ | q
      · rw [q]; exact en
      · rw [q]; dsimp only; omega
      · rw [q]; dsimp only; omega
      · generalize (decodeN (l.length - pos) (l.getD pos 0).toNat (l.getD (pos + 1) 0).toNat (l.getD (pos + 2) 0).toNat (l.getD (pos + 3) 0).toNat).1 = X at q ⊢
        omega
      · rw [q]; dsimp only; omega
    · obtain ⟨w2, w3, w4, w5⟩ := hw
      generalize (decodeN (l.length - pos) (l.getD pos 0).toNat (l.getD (pos + 1) 0).toNat (l.getD (pos + 2) 0).toNat (l.getD (pos + 3) 0).toNat).2 = k at w2 w3 w4 w5 ⊢
      intro x hx hxc
      rw [List.mem_take_iff_getElem] at hx
      obtain ⟨j, hj, hjx⟩ := hx
      have hj' : j < k := by omega
      have hx2 : (l.getD (pos + j) 0) = x := by
        rw [List.getElem_drop] at hjx
        rw [← hjx]
        rw [List.length_drop] at hj
        simp only [List.getD]
        rw [List.getElem?_eq_getElem (by omega)]
        rfl
      have hxn : (l.getD (pos + j) 0).toNat = c.toNat := by rw [hx2, hxc]
      match j, hj' with
      | 0, _ => exact en (by simpa using hxn)
      | 1, _ => have := w2 (by omega); omega
      | 2, _ => have := w3 (by omega); omega
      | 3, _ => have := w4 (by omega); omega
      | j + 4, _ => omega

def spanBa (s : ByteArray) (x : Nat × Nat) : ByteArray := s.extract x.1 x.2

theorem drop_at {l : List UInt8} {n : Nat} {c : UInt8} (h : l[n]? = some c) : l.drop n = c :: l.drop (n + 1) := by
  obtain ⟨h1, h2⟩ := List.getElem?_eq_some_iff.1 h
  rw [List.drop_eq_getElem_cons h1, h2]

/-- the spans, from a place on -/
theorem spans_is (c : UInt8) (hc : c.toNat < 128) (s : ByteArray) : ∀ (f pos : Nat) (st : Option Nat) (acc : List (Nat × Nat)), s.size ≤ f + pos →
    (∀ a, st = some a → a < pos ∧ ∀ x ∈ (s.data.toList.take pos).drop a, x ≠ c) → pos ≤ s.size →
    (closeSpans s (spansFromP (fun r => r == c.toNat) s f pos st acc)).map (spanBa s) = acc.map (spanBa s) ++ (partsL c (s.data.toList.drop (st.getD pos))).map ba
  | f, pos, st, acc, hf, hst, hp => by
    have hsz := size_list s
    by_cases hlt : pos < s.size
    rotate_left
    · have hpe : pos = s.size := by omega
      rw [spansFromP_end _ _ _ _ _ _ hlt]
      cases st with
      | none =>
        simp only [closeSpans, Option.getD_none]
        rw [List.drop_eq_nil_of_le (by omega)]
        simp [partsL, splitL]
      | some a =>
        obtain ⟨ha, hno⟩ := hst a rfl
        simp only [closeSpans, Option.getD_some]
        have e1 : (s.data.toList.take pos).drop a = s.data.toList.drop a := by rw [List.take_of_length_le (by omega)]
        rw [e1] at hno
        rw [partsL, splitL_plain _ hno]
        have hne : s.data.toList.drop a ≠ [] := by
          intro h0
          have := congrArg List.length h0
          rw [List.length_drop] at this
          simp at this
          omega
        simp only [List.map_append, List.map_cons, List.map_nil, spanBa, extract_ba]
        rw [List.filter_cons_of_pos (by simpa using hne)]
        simp only [List.filter_nil, List.map_cons, List.map_nil]
        rw [List.take_of_length_le (by omega)]
    · cases f with
      | zero => omega
      | succ f =>
        have hd := dec_at c hc s pos hlt
        have hw := Lib.width_pos s pos
        have hw2 : (Utf8.decode s pos).2 ≤ s.size - pos := by
          rw [decode_N]
          have hx := decodeN_conts (s.data.toList.length - pos) (s.data.toList.getD pos 0).toNat (s.data.toList.getD (pos + 1) 0).toNat (s.data.toList.getD (pos + 2) 0).toNat (s.data.toList.getD (pos + 3) 0).toNat
          obtain ⟨x1, x2, x3, x4⟩ := hx
          generalize (decodeN (s.data.toList.length - pos) (s.data.toList.getD pos 0).toNat (s.data.toList.getD (pos + 1) 0).toNat (s.data.toList.getD (pos + 2) 0).toNat (s.data.toList.getD (pos + 3) 0).toNat).2 = k at *
          by_cases h4 : 4 ≤ k
          · have := (x3 h4).2; omega
          · by_cases h3 : 3 ≤ k
            · have := (x2 h3).2; omega
            · by_cases h2 : 2 ≤ k
              · have := (x1 h2).2; omega
              · omega
        unfold spansFromP
        rw [if_pos hlt]
        by_cases hb : s.data.toList[pos]? = some c
        · rw [hd.1 hb]
          simp only [beq_self_eq_true, if_true]
          have hdr := drop_at hb
          cases st with
          | none =>
            dsimp only
            rw [spans_is c hc s f (pos + 1) none acc (by omega) (by simp) (by omega)]
            simp only [Option.getD_none]
            rw [hdr, partsL, partsL, splitL_cons_eq, List.filter_cons_of_neg (by simp)]
          | some a =>
            obtain ⟨ha, hno⟩ := hst a rfl
            dsimp only
            rw [spans_is c hc s f (pos + 1) none _ (by omega) (by simp) (by omega)]
            simp only [Option.getD_none, Option.getD_some]
            have e2 : s.data.toList.drop a = (s.data.toList.take pos).drop a ++ c :: s.data.toList.drop (pos + 1) := by
              rw [← hdr, List.drop_take]
              have := (List.take_append_drop (pos - a) (s.data.toList.drop a)).symm
              rw [List.drop_drop, show a + (pos - a) = pos by omega] at this
              exact this
            have hne : (s.data.toList.take pos).drop a ≠ [] := by
              intro h0
              have := congrArg List.length h0
              rw [List.length_drop, List.length_take] at this
              simp at this
              omega
            rw [e2, partsL, partsL, splitL_part _ _ hno, List.filter_cons_of_pos (by simpa using hne)]
            simp only [List.map_append, List.map_cons, List.map_nil, spanBa, extract_ba, List.append_assoc, List.singleton_append]
        · obtain ⟨h1, h2⟩ := hd.2 hb
          rw [if_neg (by simpa using h1)]
          generalize (Utf8.decode s pos).2 = k at *
          have hrest : ∀ a, a ≤ pos → (∀ x ∈ (s.data.toList.take pos).drop a, x ≠ c) → ∀ x ∈ (s.data.toList.take (pos + k)).drop a, x ≠ c := by
            intro a ha hno x hx
            have e3 : (s.data.toList.take (pos + k)).drop a = (s.data.toList.take pos).drop a ++ (s.data.toList.drop pos).take k := by
              rw [List.take_add, List.drop_append_of_le_length (by rw [List.length_take]; omega)]
            rw [e3, List.mem_append] at hx
            rcases hx with hx | hx
            · exact hno x hx
            · exact h2 x hx
          cases st with
          | none =>
            dsimp only
            rw [spans_is c hc s f (pos + k) (some pos) acc (by omega) (by
              intro a ha
              injection ha with ha
              subst ha
              refine ⟨by omega, hrest _ (Nat.le_refl _) fun x hx => ?_⟩
              rw [List.drop_eq_nil_of_le (by rw [List.length_take]; omega)] at hx
              cases hx) (by omega)]
            rfl
          | some a =>
            obtain ⟨ha, hno⟩ := hst a rfl
            dsimp only
            rw [spans_is c hc s f (pos + k) (some a) acc (by omega) (by
              intro a' ha'
              injection ha' with ha'
              subst ha'
              exact ⟨by omega, hrest _ (by omega) hno⟩) (by omega)]
            rfl

theorem goFields_parts (c : UInt8) (hc : c.toNat < 128) (s : ByteArray) : goFieldsP (fun r => r == c.toNat) s = (partsL c s.data.toList).map ba := by
  have := spans_is c hc s s.size 0 none [] (by omega) (by simp) (by omega)
  simp only [List.map_nil, List.nil_append, Option.getD_none, List.drop_zero] at this
  exact this

end Go.Proofs.YtikgnpachlgakaaDoor.Text
