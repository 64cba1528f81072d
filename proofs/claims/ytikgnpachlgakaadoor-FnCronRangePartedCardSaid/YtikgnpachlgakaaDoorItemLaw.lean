/- The thin package's readers of items over bounds that are handed in, and the helper of the laws that holds bits against a set. -/
import Derived.Test.YtikgnpachlgakaaDoorCronBits
import Derived.Test.YtikgnpachlgakaaDoorGetRange
import Derived.Test.YtikgnpachlgakaaDoorPrA
namespace Go.Proofs.YtikgnpachlgakaaDoor.Cron
open Go Go.RowKit Go.Proofs.YtikgnpachlgakaaDoor.Text Go.Proofs.YtikgnpachlgakaaDoor.Bits
set_option linter.unusedVariables false

theorem reads_nil : Reads none mp G := by
  refine ⟨fun h hb => h.below hb, fun h => h, fun h => mp_le h, fun s w hs hg => ?_⟩
  cases h : mp s.data.toList with
  | none => exact (valueNil_bad s (by omega) h w hg).mono fun e w' ⟨t, x, he, hb⟩ => ⟨⟨t, x, he⟩, hb⟩
  | some n => exact (valueNil_ok s (by omega) n h w).mono fun e w' ⟨he, hb⟩ => ⟨he, hb⟩

/-- what the thin package makes of the bits -/
def BitsAnswer (w : World) (r : Option Nat) (e : Ending) (w' : World) : Prop :=
  e = .returned (.tuple #[.int .u64 (r.getD 0 : Nat), .bool r.isSome]) ∧ Below w.heap.size w w'

theorem bits_ok (n : Int) (w : World) : Calls Tryd.prog 37 #[.int .u64 n, .nilIface] w fun e w' => e = .returned (.tuple #[.int .u64 n, .bool true]) ∧ w = w' := by
  go_enter Tryd.func37, Tryd.ntmps37
  go_wp2
  go_ret2
  exact ⟨rfl, rfl⟩

theorem bits_bad (n : Int) (t : TypeId) (x : Value) (w : World) : Calls Tryd.prog 37 #[.int .u64 n, .iface t x] w fun e w' => e = .returned (.tuple #[.int .u64 0, .bool false]) ∧ w = w' := by
  go_enter Tryd.func37, Tryd.ntmps37
  go_wp2
  go_ret2
  exact ⟨rfl, rfl⟩

theorem zzItemIn_any (lo hi : Nat) (s : ByteArray) (hs : s.size ≤ 4294967296) (h1 : lo ≤ hi) (h2 : hi ≤ 62) (w : World) (hg : G w) :
    Calls Tryd.prog 38 #[.int .u64 lo, .int .u64 hi, .string s] w (Answers w (rangeS mp lo hi s.data.toList)) := by
  have H := Lib.hid (rangeA none mp G reads_nil lo hi s hs h1 h2 w hg)
  generalize rangeS mp lo hi s.data.toList = r at H ⊢
  go_enter Tryd.func38, Tryd.ntmps38
  cases r with
  | none =>
    go_wp2_with (go_at_call 53; go_must (refine H.out.mono ?_); rintro e w' ⟨⟨t, x, rfl⟩, hb⟩)
    go_ret2
    exact ⟨⟨t, x, rfl⟩, hb⟩
  | some b =>
    go_wp2_with (go_at_call 53; go_must (refine H.out.mono ?_); rintro e w' ⟨rfl, hb⟩)
    go_ret2
    exact ⟨rfl, hb⟩

theorem cronItemIn_any (lo hi : Nat) (s : ByteArray) (hs : s.size ≤ 4294967296) (h1 : lo ≤ hi) (h2 : hi ≤ 62) (w : World) (hg : G w) :
    Calls Tryd.prog 13 #[.int .u64 lo, .int .u64 hi, .string s] w (BitsAnswer w (rangeS mp lo hi s.data.toList)) := by
  have H := Lib.hid (zzItemIn_any lo hi s hs h1 h2 w hg)
  generalize rangeS mp lo hi s.data.toList = r at H ⊢
  go_enter Tryd.func13, Tryd.ntmps13
  cases r with
  | none =>
    go_wp2_with (first | (go_at_call 38; go_must (refine H.out.mono ?_); rintro e w' ⟨⟨t, x, rfl⟩, hb⟩) | (go_at_call 37; go_must (refine (bits_bad _ _ _ _).mono ?_); rintro e w'' ⟨rfl, rfl⟩))
    go_ret2
    exact ⟨rfl, hb⟩
  | some b =>
    go_wp2_with (first | (go_at_call 38; go_must (refine H.out.mono ?_); rintro e w' ⟨rfl, hb⟩) | (go_at_call 37; go_must (refine (bits_ok _ _).mono ?_); rintro e w'' ⟨rfl, rfl⟩))
    go_ret2
    exact ⟨rfl, hb⟩

/-- the laws' helper says yes where the reference says of the program what it says -/
theorem lawBits_any (r : Option Nat) (star : Bool) (p : Nat → Bool) (v : Int) (h : ItemIs r star p v) (w : World) :
    Calls Tryd.prog 14 #[.int .u64 (r.getD 0 : Nat), .bool r.isSome, .agg (setCells star p), .int .i64 v] w fun e w' => e = .returned (.bool true) ∧ Below w.heap.size w w' := by
  have hbox := run_box_set star p
  have hset : IsSet (w.alloc (.cells (setCells star p) 32)) w.heap.size star p := isSet_new w star p
  have HS := Lib.hid hset
  clear hset
  rcases h.vs with rfl | rfl | rfl
  · have hr := h.bad rfl
    subst hr
    clear h
    go_enter Tryd.func14, Tryd.ntmps14
    go_wp2_with fail
    go_ret
    exact ⟨rfl, (Below.refl _ _).alloc (Nat.le_refl _) _⟩
  · have hr := h.fine rfl
    subst hr
    clear h
    have HB := Lib.hid (fun w' => cronBits_of star p w')
    go_enter Tryd.func14, Tryd.ntmps14
    go_wp2_with (first | (refine wpList_load_set' (by rfl) _ rfl w.heap.size star p rfl HS.out ?_) | (go_at_call 39; go_must (refine (HB.out _).mono ?_); rintro e w' ⟨rfl, hb⟩))
    go_ret
    exact ⟨rfl, ((Below.refl _ _).alloc (Nat.le_refl _) _).trans (hb.mono (by simp))⟩
  · clear h
    go_enter Tryd.func14, Tryd.ntmps14
    go_wp2_with fail
    go_ret
    exact ⟨rfl, (Below.refl _ _).alloc (Nat.le_refl _) _⟩

end Go.Proofs.YtikgnpachlgakaaDoor.Cron
