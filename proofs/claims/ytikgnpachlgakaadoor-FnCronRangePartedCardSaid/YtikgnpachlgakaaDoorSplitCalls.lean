/- What a call of cron's zzSplit leaves: a row of its own with the pieces. -/
import Derived.Test.YtikgnpachlgakaaDoorSplit
import Derived.Test.YtikgnpachlgakaaDoorBase
namespace Go.Proofs.YtikgnpachlgakaaDoor.Text
open Go Go.RowKit Go.Proofs.YtikgnpachlgakaaDoorW.PrintWords Go.Proofs.YtikgnpachlgakaaDoor.Pr
set_option linter.unusedVariables false

/-- v is a row of texts in block g -/
structure Texts (w : World) (g n cap : Nat) (l : List ByteArray) : Prop where
  len : n = l.length
  le : n ≤ cap
  lt : g < w.heap.size
  at_ : ∀ (i : Nat) x, l[i]? = some x → w.cell? ⟨g, i, none⟩ = some (.string x)

theorem Texts.below {w w' : World} {g n cap : Nat} {l : List ByteArray} (h : Texts w g n cap l) (hb : Below w.heap.size w w') : Texts w' g n cap l :=
  ⟨h.len, h.le, Nat.lt_of_lt_of_le h.lt hb.size, fun i x hx => (hb.cell (p := ⟨g, i, none⟩) h.lt).trans (h.at_ i x hx)⟩

theorem texts_of_R {e : Nat} {w : World} {base : Nat} {ok : Nat → Prop} {v : Value} {l : List ByteArray} (h : Kd.R Kd.string e w base ok v l) (hne : l ≠ []) :
    ∃ g n cap, v = .slice (some ⟨g, 0, none⟩) n cap ∧ base ≤ g ∧ Texts w g n cap l := by
  have ho := Kd.own_of_R h
  obtain ⟨_, h1 | ⟨g, cap, cur, rfl, hg, hb, hn, hc, hs, ht⟩⟩ := ho
  · exact absurd (List.length_eq_zero_iff.1 h1.2) hne
  · refine ⟨g, _, cap, rfl, hg, rfl, hn, ?_, fun i x hx => ?_⟩
    · exact (Array.getElem?_eq_some_iff.1 hb).1
    · have hi : i < l.length := (List.getElem?_eq_some_iff.1 hx).1
      have := (Kd.R_cell ByteArray.empty h (i : Int) (by omega) (by omega)).1
      rw [Int.toNat_natCast] at this
      rw [this]
      simp only [rdOf, Int.toNat_natCast, List.getD_eq_getElem?_getD, hx, Option.getD_some]

theorem zzSplit_any (c : UInt8) (s : ByteArray) (hs : s.size ≤ 8796093022206) (w : World) :
    Calls Tryd.prog 75 #[.string s, .string (ba [c])] w fun e w' => ∃ g n cap, e = .returned (.slice (some ⟨g, 0, none⟩) n cap) ∧ w.heap.size ≤ g ∧ Texts w' g n cap (splitB c s) ∧ Below w.heap.size w w' := by
  obtain ⟨k, hk⟩ := (split_f c s hs).rounds
  refine (cron_zzSplit.calls k s (ba [c]) _ w hk).mono ?_
  rintro e w' ⟨v, rfl, hR, hb⟩
  obtain ⟨g, n, cap, rfl, hg, ht⟩ := texts_of_R hR (splitB_ne c s)
  exact ⟨g, n, cap, rfl, hg, ht, hb⟩

end Go.Proofs.YtikgnpachlgakaaDoor.Text
