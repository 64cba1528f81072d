/- What cron's getBits, ZZBits and impl's CronBits answer: the set of steps. -/
import Derived.Test.YtikgnpachlgakaaDoorProg
import Derived.WalkKit
import Derived.OwnWalk
import Derived.Lib.Hide
import Derived.Outline
import Derived.Test.YtikgnpachlgakaaDoorBits
namespace Go.Proofs.YtikgnpachlgakaaDoor.Cron
open Go Go.RowKit Go.Proofs.YtikgnpachlgakaaDoor.Bits
set_option linter.unusedVariables false

theorem int_eq {k : IntKind} {a b : Int} (h : a = b) : Ending.returned (.int k a) = .returned (.int k b) := by rw [h]

theorem getBits_one (lo hi : Nat) (h : lo ≤ hi) (hh : hi ≤ 63) (w : World) :
    Calls Tryd.prog 76 #[.int .u64 lo, .int .u64 hi, .int .u64 1] w fun e w' => e = .returned (.int .u64 (steps lo hi 1)) ∧ w = w' := by
  have hs := Lib.hid (steps_one lo hi hh)
  go_enter Tryd.func76, Tryd.ntmps76
  go_wp2
  go_ret
  refine ⟨int_eq ?_, rfl⟩
  rcases hs.out with e | e
  · exact e
  · omega

theorem getBits_more (lo hi st : Nat) (h : lo ≤ hi) (hh : hi ≤ 63) (h2 : 2 ≤ st) (h3 : st ≤ 9223372036854775807) (w : World) :
    Calls Tryd.prog 76 #[.int .u64 lo, .int .u64 hi, .int .u64 st] w fun e w' => e = .returned (.int .u64 (steps lo hi st)) ∧ w = w' := by
  have hne : ((st : Int) == 1) = false := by simp; omega
  go_enter Tryd.func76, Tryd.ntmps76
  go_wp2
  go_loop [7, 8] (fun b i => ∃ n m : Nat, i = .int .u64 n ∧ b = .int .u64 (below lo n st) ∧ Hid (n = lo + m * st) ∧ lo ≤ n ∧ n ≤ hi + st) (fun _ i => hi + st + 1 - (intOf i).toNat)
  case atStart => exact ⟨lo, 0, rfl, by rw [below_start]; rfl, Lib.hid (by simp), by omega, by omega⟩
  case round =>
    obtain ⟨n, m, rfl, rfl, hn, hl, hu⟩ := hrel
    have hb := below_lt lo n st
    by_cases hle : n ≤ hi
    · have hstep := Lib.hid (below_step m hn.out (by omega) (show n ≤ 63 by omega))
      have hor : bits .or .u64 (below lo n st : Int) (IntKind.u64.wrap (2 ^ n)) = (below lo (n + st) st : Int) := by
        rw [show IntKind.u64.wrap (2 ^ n) = ((2 ^ n : Nat) : Int) from shl_one (i := (n : Int)) (by omega) (by omega), or_u64 hb (Nat.pow_lt_pow_right (by decide) (by omega)), hstep.out]
      go_wp2
      go_round
      case rel =>
        refine ⟨n + st, m + 1, by go_num, ?_, Lib.hid ?_, by omega, by omega⟩
        · rfl
        · have := hn.out; rw [Nat.add_mul]; omega
      case measure => simp [intOf]; omega
    · have hend := Lib.hid (below_end m hn.out (show hi < n by omega) hu h)
      go_wp2
      go_ret
      exact ⟨int_eq (by rw [hend.out]), rfl⟩

theorem getBits_any (lo hi st : Nat) (h : lo ≤ hi) (hh : hi ≤ 63) (h2 : 1 ≤ st) (h3 : st ≤ 9223372036854775807) (w : World) :
    Calls Tryd.prog 76 #[.int .u64 lo, .int .u64 hi, .int .u64 st] w fun e w' => e = .returned (.int .u64 (steps lo hi st)) ∧ w = w' := by
  by_cases e : st = 1
  · subst e; exact getBits_one lo hi h hh w
  · exact getBits_more lo hi st h hh (by omega) h3 w



end Go.Proofs.YtikgnpachlgakaaDoor.Cron
