/- The thin package's reader of values, and the walk of the law FnCronValue. -/
import Derived.Test.YtikgnpachlgakaaDoorSpecValue
import Derived.Test.YtikgnpachlgakaaDoorItemLaw
import Derived.Test.YtikgnpachlgakaaDoorPrA
import Derived.Test.YtikgnpachlgakaaDoorPrB
namespace Go.Proofs.YtikgnpachlgakaaDoor.Cron
open Go Go.RowKit Go.Proofs.YtikgnpachlgakaaDoor.Text Go.Proofs.YtikgnpachlgakaaDoorW.PrintWords Go.Proofs.YtikgnpachlgakaaDoorW.PrintLast Go.Proofs.YtikgnpachlgakaaDoorW.PrintMore Go.Proofs.YtikgnpachlgakaaDoor.Pr
set_option linter.unusedVariables false

theorem number_ok (n : Int) (w : World) : Calls Tryd.prog 31 #[.int .u64 n, .nilIface] w fun e w' => e = .returned (.tuple #[.int .u64 n, .bool true]) ∧ w = w' := by
  go_enter Tryd.func31, Tryd.ntmps31
  go_wp2
  go_ret2
  exact ⟨rfl, rfl⟩

theorem number_bad (n : Int) (t : TypeId) (x : Value) (w : World) : Calls Tryd.prog 31 #[.int .u64 n, .iface t x] w fun e w' => e = .returned (.tuple #[.int .u64 0, .bool false]) ∧ w = w' := by
  go_enter Tryd.func31, Tryd.ntmps31
  go_wp2
  go_ret2
  exact ⟨rfl, rfl⟩

theorem isKind_any (k : Int) (w : World) : Calls Tryd.prog 8 #[.int .i64 k] w fun e w' => e = .returned (.bool (decide (0 ≤ k ∧ k < 6))) ∧ Below w.heap.size w w' := by
  refine (spec_CronIsKind.calls k (decide (0 ≤ k ∧ k < 6)) w ?_).mono fun e w' ⟨he, hw⟩ => ⟨he, drawn_below hw⟩
  unfold spec_CronIsKind.f
  by_cases h : 0 ≤ k
  · rw [if_pos h]
    simp [h]
  · rw [if_neg h]
    simp [h]

theorem run_names_field (lo hi : Int) (m : Option Nat) (w : World) : (Instr.field 87 (.agg #[.int .u64 lo, .int .u64 hi, .map m]) 2).run Tryd.prog w = .ok (.map m) w := by kernel_rfl

set_option maxRecDepth 100000 in
theorem zzValue_any (k : Nat) (hk : k < 6) (s : ByteArray) (hs : s.size ≤ 4294967296) (w : World) (hg : G w) :
    Calls Tryd.prog 32 #[.int .i64 k, .string s] w (Answers w (valK k s.data.toList)) := by
  have HB := Lib.hid (bounds_read k hk)
  generalize valK k = val at *
  have HX := Lib.hid (fun m Inv (hR : Reads m val Inv) w' hI => hR.calls s w' hs hI)
  generalize val s.data.toList = r at HX ⊢
  go_enter Tryd.func32, Tryd.ntmps32
  go_wp2_with fail
  refine (HB.out _ hg).mono ?_
  rintro e w1 ⟨m, Inv, rfl, hR, hI, hb1⟩
  have HC := Lib.hid (HX.out m Inv hR w1 hI)
  have hfd := run_names_field (loK k : Nat) (hiK k : Nat) m
  clear hR hI HX HB
  cases r with
  | none =>
    go_wp2_with fail
    refine HC.out.mono ?_
    rintro e w2 ⟨⟨t, x, rfl⟩, hb2⟩
    go_wp2_with fail
    go_ret2
    exact ⟨⟨t, x, rfl⟩, below_of_le hb1 hb2⟩
  | some b =>
    go_wp2_with fail
    refine HC.out.mono ?_
    rintro e w2 ⟨rfl, hb2⟩
    go_wp2_with fail
    go_ret2
    exact ⟨rfl, below_of_le hb1 hb2⟩

theorem thinCronValue_any (k : Nat) (hk : k < 6) (s : ByteArray) (hs : s.size ≤ 4294967296) (w : World) (hg : G w) :
    Calls Tryd.prog 10 #[.int .i64 k, .string s] w (BitsAnswer w (valK k s.data.toList)) := by
  have H := Lib.hid (zzValue_any k hk s hs w hg)
  generalize valK k s.data.toList = r at H ⊢
  go_enter Tryd.func10, Tryd.ntmps10
  cases r with
  | none =>
    go_wp2_with (first | (go_at_call 32; go_must (refine H.out.mono ?_); rintro e w' ⟨⟨t, x, rfl⟩, hb⟩) | (go_at_call 31; go_must (refine (number_bad _ _ _ _).mono ?_); rintro e w'' ⟨rfl, rfl⟩))
    go_ret2
    exact ⟨rfl, hb⟩
  | some b =>
    go_wp2_with (first | (go_at_call 32; go_must (refine H.out.mono ?_); rintro e w' ⟨rfl, hb⟩) | (go_at_call 31; go_must (refine (number_ok _ _).mono ?_); rintro e w'' ⟨rfl, rfl⟩))
    go_ret2
    exact ⟨rfl, hb⟩

theorem lawValue_any (kind : Int) (s : ByteArray) (hs : s.size ≤ 140737488351232) (w : World) (hg : G w) :
    Calls Tryd.prog 3 #[.int .i64 kind, .string s] w fun e w' => e = .returned (.bool true) ∧ Below w.heap.size w w' := by
  have HK := Lib.hid (fun w' => isKind_any kind w')
  by_cases h1 : 2147483647 < s.size
  · go_enter Tryd.func3, Tryd.ntmps3
    go_wp2_with fail
    go_ret
    exact ⟨rfl, Below.refl _ _⟩
  by_cases h2 : 0 ≤ kind ∧ kind < 6
  rotate_left
  · rw [decide_eq_false h2] at HK
    clear h2
    go_enter Tryd.func3, Tryd.ntmps3
    go_wp2_with (go_at_call 8; go_must (refine (HK.out _).mono ?_); rintro e w1 ⟨rfl, hb1⟩)
    go_ret
    exact ⟨rfl, hb1⟩
  rw [decide_eq_true h2] at HK
  by_cases h4 : 65536 < s.size
  · clear h2
    go_enter Tryd.func3, Tryd.ntmps3
    go_wp2_with (go_at_call 8; go_must (refine (HK.out _).mono ?_); rintro e w1 ⟨rfl, hb1⟩)
    go_ret
    exact ⟨rfl, hb1⟩
  obtain ⟨k, rfl⟩ : ∃ k : Nat, kind = k := ⟨kind.toNat, by omega⟩
  have hk : k < 6 := by omega
  have HA := Lib.hid (fun w' hg' => thinCronValue_any k hk s (by omega) w' hg')
  obtain ⟨K, n, v, hf, hv, hsm⟩ := value_small k hk s (by omega)
  have HC := Lib.hid (fun w' => spec_CronValue.calls K k s n v w' hf)
  generalize valK k s.data.toList = r at *
  have hbad : v = 0 → r = none := fun h => (hv.bad h).1
  have hgood : v = 1 → s.size ≤ 12 → ∃ m : Nat, r = some m ∧ n = m := by
    intro h1 h12
    have hn := hsm h12
    rcases hv.fine h1 with ⟨m, e1, e2⟩ | ⟨e1, e2⟩
    · exact ⟨m, e1, by omega⟩
    · omega
  have hvs := hv.vs
  have hlo := hv.lo
  have hhi := hv.hi
  clear hf hv hsm h2
  go_enter Tryd.func3, Tryd.ntmps3
  go_wp2_with (go_at_call 8; go_must (refine (HK.out _).mono ?_); rintro e w1 ⟨rfl, hb1⟩)
  refine (HC.out _).mono ?_
  rintro e w2 ⟨rfl, hb2⟩
  have hB2 := below_of_le hb1 hb2
  clear hb1 hb2
  go_wp2_with fail
  refine (HA.out _ (hg.below hB2)).mono ?_
  rintro e w3 ⟨rfl, hb3⟩
  have hB3 := below_of_le hB2 hb3
  clear hb3 hB2 HA HC HK
  rcases hvs with rfl | rfl | rfl
  · have hr := hbad rfl
    subst hr
    clear hbad hgood
    go_wp2_with fail
    go_ret
    exact ⟨rfl, hB3⟩
  · by_cases h12 : s.size ≤ 12
    · obtain ⟨m, hr, hn⟩ := hgood rfl h12
      subst hr
      subst hn
      clear hbad hgood
      go_wp2_with fail
      go_ret
      exact ⟨rfl, hB3⟩
    · clear hbad hgood
      go_wp2_with fail
      go_ret
      exact ⟨rfl, hB3⟩
  · clear hbad hgood
    go_wp2_with fail
    go_ret
    exact ⟨rfl, hB3⟩

end Go.Proofs.YtikgnpachlgakaaDoor.Cron
