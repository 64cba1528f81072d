/- What parseIntOrName answers with names, and what the bounds of each kind of field read. -/
import Derived.Test.YtikgnpachlgakaaDoorNames
import Derived.Test.YtikgnpachlgakaaDoorLower
namespace Go.Proofs.YtikgnpachlgakaaDoor.Cron
open Go Go.RowKit Go.Proofs.YtikgnpachlgakaaDoor.Text Go.Proofs.YtikgnpachlgakaaDoor.Bits
set_option linter.unusedVariables false

/-- a text in lower case -/
def lowB (s : ByteArray) : ByteArray := ⟨(lowS s).toArray⟩

/-- the value of a name or a number -/
def valN (L : List (ByteArray × Int)) (l : List UInt8) : Option Nat :=
  match lookL (lowB (ba l)) L with
  | some v => some v.toNat
  | none => mp l

theorem look_mem (s : ByteArray) : ∀ (L : List (ByteArray × Int)) (v : Int), lookL s L = some v → (s, v) ∈ L
  | [], v, h => by cases h
  | (k, x) :: t, v, h => by
    unfold lookL at h
    by_cases e : s = k
    · rw [if_pos e] at h
      injection h with h
      subst e; subst h
      exact List.mem_cons_self ..
    · rw [if_neg e] at h
      exact List.mem_cons_of_mem _ (look_mem s t v h)

/-- all values of a list of names lie between 0 and 12 -/
def Small (L : List (ByteArray × Int)) : Prop := ∀ p ∈ L, 0 ≤ p.2 ∧ p.2 ≤ 12

theorem months_small : Small monthsL := by
  intro p hp
  simp only [monthsL, List.mem_cons, List.not_mem_nil, or_false] at hp
  rcases hp with rfl | rfl | rfl | rfl | rfl | rfl | rfl | rfl | rfl | rfl | rfl | rfl <;> exact ⟨by omega, by omega⟩

theorem dow_small : Small dowL := by
  intro p hp
  simp only [dowL, List.mem_cons, List.not_mem_nil, or_false] at hp
  rcases hp with rfl | rfl | rfl | rfl | rfl | rfl | rfl <;> exact ⟨by omega, by omega⟩

theorem lower_any (s : ByteArray) (hs : s.size ≤ 4294967296) (w : World) :
    Calls Tryd.prog 73 #[.string s] w fun e w' => e = .returned (.string (lowB s)) ∧ Below w.heap.size w w' := zzLower_any s hs w

set_option maxRecDepth 100000 in
theorem reads_named (r : Nat) (L : List (ByteArray × Int)) (hL : Small L) : Reads (some r) (valN L) (fun w => G w ∧ MapAt w r L) := by
  refine ⟨fun ⟨h, hM⟩ hb => ⟨h.below hb, hM.below hb⟩, fun h => h.1, fun {l n} h => ?_, fun s w hs hI => ?_⟩
  · unfold valN at h
    split at h
    · rename_i v hv
      have := hL _ (look_mem _ _ _ hv)
      injection h with h
      omega
    · exact mp_le h
  · obtain ⟨hg, hM⟩ := hI
    have hm := fun w : World => run_neq_map_nil (P := Tryd.prog) w 85 _ _ (some r) Tryd.underlying85
    have HLW := Lib.hid (fun w' => lower_any s hs w')
    unfold valN
    rw [ba_of]
    have hbd : ∀ v, lookL (lowB s) L = some v → 0 ≤ v ∧ v ≤ 12 := fun v hv => hL _ (look_mem _ _ _ hv)
    have hlk := fun (w' : World) (h : MapAt w' r L) => run_lookup_name w' r L (lowB s) h
    generalize lookL (lowB s) L = q at *
    generalize lowB s = low at *
    go_enter Tryd.func51, Tryd.ntmps51
    go_wp2_with fail
    refine (HLW.out _).mono ?_
    rintro e w1 ⟨rfl, hb1⟩
    have hl := hlk w1 (hM.below hb1)
    have hg1 := hg.below hb1
    clear hlk HLW hM hL
    cases q with
    | some v =>
      obtain ⟨n, rfl⟩ : ∃ n : Nat, v = n := ⟨v.toNat, by have := hbd v rfl; omega⟩
      simp only [Option.getD_some, Option.isSome_some] at hl
      go_wp2_with fail
      go_ret2
      exact ⟨rfl, hb1⟩
    | none =>
      simp only [Option.getD_none, Option.isSome_none] at hl
      cases h : mp s.data.toList with
      | some n =>
        go_wp2_with (go_at_call 74; refine (mustParse_ok s (by omega) n h _).mono ?_; rintro e w' ⟨rfl, hb⟩)
        go_ret2
        exact ⟨rfl, below_of_le hb1 hb⟩
      | none =>
        go_wp2_with (go_at_call 74; refine (mustParse_bad s (by omega) h _ hg1).mono ?_; rintro e w' ⟨t, x, rfl, hb⟩)
        go_ret2
        exact ⟨⟨t, x, rfl⟩, below_of_le hb1 hb⟩

/-- how a kind of field reads its values -/
def valK (k : Nat) : List UInt8 → Option Nat := if k = 4 then valN monthsL else if k = 5 then valN dowL else mp

theorem bounds_read (k : Nat) (hk : k < 6) : BoundsRead k (valK k) := by
  by_cases h4 : k < 4
  · have : valK k = mp := by unfold valK; rw [if_neg (by omega), if_neg (by omega)]
    rw [this]
    exact bounds_plain k h4
  · intro w hg
    refine (zzBounds_named k (by omega) w).mono ?_
    rintro e w' ⟨r, rfl, hM, hb⟩
    by_cases h5 : k = 4
    · subst h5
      exact ⟨some r, _, rfl, reads_named r monthsL months_small, ⟨hg.below hb, hM⟩, hb⟩
    · have : k = 5 := by omega
      subst this
      exact ⟨some r, _, rfl, reads_named r dowL dow_small, ⟨hg.below hb, hM⟩, hb⟩

end Go.Proofs.YtikgnpachlgakaaDoor.Cron
