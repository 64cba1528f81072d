/- What the reference's CronBits answers: the bits of a set. -/
import Derived.Test.YtikgnpachlgakaaDoorCronItem
namespace Go.Proofs.YtikgnpachlgakaaDoor.Cron
open Go Go.RowKit Go.Proofs.YtikgnpachlgakaaDoor.Text Go.Proofs.YtikgnpachlgakaaDoor.Bits
set_option linter.unusedVariables false

theorem mkBits_next (p : Nat → Bool) (n : Nat) (h : n < 63) : mkBits (fun j => p j && decide (j < n)) 63 ||| (if p n then 2 ^ n else 0) = mkBits (fun j => p j && decide (j < n + 1)) 63 := by
  by_cases hp : p n = true
  · rw [if_pos hp, pow_mkBits n 63 h, mkBits_or]
    apply mkBits_ext
    intro j _
    by_cases e : j = n
    · subst e; simp [hp]
    · by_cases h2 : j < n
      · have : j < n + 1 := by omega
        simp [e, h2, this]
      · have : ¬ j < n + 1 := by omega
        simp [e, h2, this]
  · rw [if_neg hp, Nat.or_zero]
    apply mkBits_ext
    intro j _
    by_cases e : j = n
    · subst e
      have : p j = false := by simpa using hp
      simp [this]
    · by_cases h2 : j < n
      · have : j < n + 1 := by omega
        simp [h2, this]
      · have : ¬ j < n + 1 := by omega
        simp [h2, this]

set_option maxRecDepth 10000 in
set_option maxHeartbeats 1000000 in
theorem cronBits_of (star : Bool) (p : Nat → Bool) (w : World) :
    Calls Tryd.prog 39 #[.agg (setCells star p)] w fun e w' => e = .returned (.int .u64 (setBits star p : Nat)) ∧ Below w.heap.size w w' := by
  have hidx := run_index_in p
  have hbox := run_box_set star p
  have hset : IsSet (w.alloc (.cells (setCells star p) 32)) w.heap.size star p := isSet_new w star p
  go_enter Tryd.func39, Tryd.ntmps39
  have hc0 := hset.cell0
  have HS := Lib.hid hset
  clear hset
  go_wp2_with (refine wpList_load_in rfl _ rfl w.heap.size star p rfl HS.out ?_)
  go_loop [3, 8] (fun v3 v8 => ∃ n : Nat, n ≤ 63 ∧ v8 = .int .i64 n ∧ v3 = .int .u64 (mkBits (fun j => p j && decide (j < n)) 63 : Nat)) (fun _ v8 => 63 - (intOf v8).toNat)
  case atStart =>
    refine ⟨0, by omega, rfl, ?_⟩
    rw [mkBits_ext (q := fun _ => false) 63 (fun j _ => by simp)]
    rfl
  case round =>
    obtain ⟨n, hn, rfl, rfl⟩ := hrel
    have hlt64 : mkBits (fun j => p j && decide (j < n)) 63 < 2 ^ 64 := Nat.lt_of_lt_of_le (mkBits_lt _ _) (by decide)
    by_cases h : n < 63
    · have hnext := mkBits_next p n h
      have hi := hidx n h
      cases hp : p n with
      | true =>
        rw [hp, if_pos rfl] at hnext
        rw [hp] at hi
        have hor : bits .or .u64 ((mkBits (fun j => p j && decide (j < n)) 63 : Nat) : Int) (IntKind.u64.wrap (2 ^ n)) = ((mkBits (fun j => p j && decide (j < n + 1)) 63 : Nat) : Int) := by
          rw [show IntKind.u64.wrap (2 ^ n) = ((2 ^ n : Nat) : Int) from shl_one (i := (n : Int)) (by omega) (by omega), or_u64 hlt64 (Nat.pow_lt_pow_right (by decide) (by omega)), hnext]
        clear hnext hidx hp
        go_wp2_with fail
        go_round
        case rel => exact ⟨n + 1, by omega, by go_num, by first | rfl | (rw [hor])⟩
        case measure => simp [intOf]; omega
      | false =>
        rw [hp, if_neg (by decide), Nat.or_zero] at hnext
        rw [hp] at hi
        have HX := Lib.hid hnext
        clear hnext hidx hp
        go_wp2_with fail
        go_round
        case rel => exact ⟨n + 1, by omega, by go_num, by rw [HX.out]⟩
        case measure => simp [intOf]; omega
    · have hnn : ∀ j, j < 63 → j < n := fun j hj => by omega
      have hfull : mkBits (fun j => p j && decide (j < n)) 63 = mkBits p 63 := mkBits_ext 63 (fun j hj => by simp [hnn j hj])
      have HF := Lib.hid hfull
      cases star with
      | true =>
        have hor : bits .or .u64 ((mkBits (fun j => p j && decide (j < n)) 63 : Nat) : Int) 9223372036854775808 = ((setBits true p : Nat) : Int) := by
          unfold setBits
          rw [← hfull]
          exact or_u64 hlt64 (b := 9223372036854775808) (by decide)
        have HO := Lib.hid hor
        clear hfull hor hidx hnn
        go_wp2_with fail
        go_ret
        exact ⟨by show Ending.returned (.int .u64 (bits .or .u64 ((mkBits (fun j => p j && decide (j < n)) 63 : Nat) : Int) 9223372036854775808)) = _; rw [HO.out], (Below.refl _ _).alloc (Nat.le_refl _) _⟩
      | false =>
        clear hfull hidx hnn
        go_wp2_with fail
        go_ret
        exact ⟨by show Ending.returned (.int .u64 ((mkBits (fun j => p j && decide (j < n)) 63 : Nat) : Int)) = _; rw [HF.out]; unfold setBits; rw [if_neg (by decide), Nat.or_zero], (Below.refl _ _).alloc (Nat.le_refl _) _⟩

end Go.Proofs.YtikgnpachlgakaaDoor.Cron
