/- The walk of the law FnCronItemIn. -/
import Derived.Test.YtikgnpachlgakaaDoorItemLaw
namespace Go.Proofs.YtikgnpachlgakaaDoor.Cron
open Go Go.RowKit Go.Proofs.YtikgnpachlgakaaDoor.Text Go.Proofs.YtikgnpachlgakaaDoor.Bits Go.Proofs.YtikgnpachlgakaaDoorW.PrintWords Go.Proofs.YtikgnpachlgakaaDoorW.PrintLast Go.Proofs.YtikgnpachlgakaaDoorW.PrintMore Go.Proofs.YtikgnpachlgakaaDoor.Pr
set_option linter.unusedVariables false

theorem boundsIn_any (lo hi : Nat) (w : World) : Calls Tryd.prog 11 #[.int .u64 lo, .int .u64 hi] w fun e w' => e = .returned (.bool (decide (lo ≤ hi ∧ hi ≤ 62))) ∧ Below w.heap.size w w' := by
  have h : laws_cronBoundsIn.f lo hi = some (decide (lo ≤ hi ∧ hi ≤ 62)) := by
    unfold laws_cronBoundsIn.f
    by_cases a : lo ≤ hi
    · rw [if_pos (by omega)]
      congr 1
      rw [Bool.eq_iff_iff]
      simp [a]
      omega
    · rw [if_neg (by omega)]
      simp [a]
  refine (laws_cronBoundsIn.calls lo hi _ w h).mono ?_
  rintro e w' ⟨he, hw⟩
  refine ⟨he, ?_⟩
  first
    | exact hw
    | (obtain ⟨n, rfl⟩ := hw; exact pw_below_drewN (Below.refl _ _) n)

theorem lawItemIn_any (lo hi : Nat) (s : ByteArray) (hs : s.size ≤ 140737488351232) (w : World) (hg : G w) :
    Calls Tryd.prog 4 #[.int .u64 lo, .int .u64 hi, .string s] w fun e w' => e = .returned (.bool true) ∧ Below w.heap.size w w' := by
  by_cases h1 : 2147483647 < s.size
  · go_enter Tryd.func4, Tryd.ntmps4
    go_wp2_with fail
    go_ret
    exact ⟨rfl, Below.refl _ _⟩
  by_cases h2 : lo ≤ hi ∧ hi ≤ 62
  · obtain ⟨h2a, h2b⟩ := h2
    have HB : Hid (∀ w', Calls Tryd.prog 11 #[.int .u64 lo, .int .u64 hi] w' fun e w'' => e = .returned (.bool true) ∧ Below w'.heap.size w' w'') :=
      Lib.hid (fun w' => (boundsIn_any lo hi w').mono fun e w'' ⟨he, hb⟩ => ⟨by rw [he, decide_eq_true ⟨h2a, h2b⟩], hb⟩)
    by_cases h3 : 65536 < s.size
    · go_enter Tryd.func4, Tryd.ntmps4
      go_wp2_with (go_at_call 11; go_must (refine (HB.out _).mono ?_); rintro e w1 ⟨rfl, hb1⟩)
      go_ret
      exact ⟨rfl, hb1⟩
    · have hal := run_alloc_set
      go_enter Tryd.func4, Tryd.ntmps4
      go_wp2_with (go_at_call 11; go_must (refine (HB.out _).mono ?_); rintro e w1 ⟨rfl, hb1⟩)
      refine (cronItem_any mp (-1) (value_plain (by decide) (by decide)) lo hi s (by omega) h2a h2b _).mono ?_
      rintro e w2 ⟨star, p, v, rfl, hi2, hb2⟩
      have hB2 := below_of_le hb1 hb2
      have HI := Lib.hid hi2
      clear hi2 hb1 hb2
      have HN := Lib.hid (isSet_lit w2)
      have HW := Lib.hid ((HN.out).store star p)
      have hB3 : ∀ o, Below w.heap.size w ((w2.alloc o).setRow w2.heap.size (setCells star p)) := fun o => below_setRow (hB2.alloc hB2.size _) hB2.size _
      have HB3 := Lib.hid hB3
      clear hB3
      go_wp2_with (refine wpList_store_set rfl _ _ rfl w2.heap.size star p rfl rfl false noSet HN.out ?_)
      refine (cronItemIn_any lo hi s (by omega) h2a h2b _ (hg.below (HB3.out _))).mono ?_
      rintro e w3 ⟨rfl, hb3⟩
      have HW3 := Lib.hid (HW.out.below hb3)
      have hB4 := below_of_le (HB3.out _) hb3
      clear hb3
      have HL := Lib.hid (fun w' => lawBits_any _ star p v HI.out w')
      go_wp2_with (first | (refine wpList_load_set rfl _ rfl w2.heap.size star p rfl HW3.out ?_) | (go_at_call 14; go_must (refine (HL.out _).mono ?_); rintro e w4 ⟨rfl, hb4⟩))
      go_ret
      exact ⟨rfl, below_of_le hB4 hb4⟩
  · have HB : Hid (∀ w', Calls Tryd.prog 11 #[.int .u64 lo, .int .u64 hi] w' fun e w'' => e = .returned (.bool false) ∧ Below w'.heap.size w' w'') :=
      Lib.hid (fun w' => (boundsIn_any lo hi w').mono fun e w'' ⟨he, hb⟩ => ⟨by rw [he, decide_eq_false h2], hb⟩)
    clear h2
    go_enter Tryd.func4, Tryd.ntmps4
    go_wp2_with (go_at_call 11; go_must (refine (HB.out _).mono ?_); rintro e w1 ⟨rfl, hb1⟩)
    go_ret
    exact ⟨rfl, hb1⟩

end Go.Proofs.YtikgnpachlgakaaDoor.Cron
