/- The walk of the law FnCronRangeParted. -/
import Derived.Test.YtikgnpachlgakaaDoorRangeText
import Derived.Test.YtikgnpachlgakaaDoorFields
import Derived.Test.YtikgnpachlgakaaDoorLawValue
namespace Go.Proofs.YtikgnpachlgakaaDoor.Cron
open Go Go.RowKit Go.Proofs.YtikgnpachlgakaaDoor.Text Go.Proofs.YtikgnpachlgakaaDoor.Bits
set_option linter.unusedVariables false

theorem ba_append (x y : List UInt8) : ba x ++ ba y = ba (x ++ y) := by
  apply ByteArray.ext
  simp [ba]

theorem itoa_any (i : Nat) (hi : i < 100) (w : World) : Calls Tryd.prog 18 #[.int .i64 i] w fun e w' => e = .returned (.string (ba (dig i))) ∧ w' = w := by
  have HC := Lib.hid (fun w' : World => Tryd.internal_strconv_Itoa_small i hi w')
  rw [decDigits_dig i hi] at HC
  go_enter Tryd.func18, Tryd.ntmps18
  go_wp2_with fail
  refine (HC.out _).mono ?_
  rintro e w' ⟨rfl, rfl⟩
  go_wp2_with fail
  go_ret
  exact ⟨rfl, rfl⟩

theorem text_one (a b : Nat) : ((ba (dig a) ++ ⟨#[45]⟩) ++ ba (dig b)) = ba (rangeText a b) := by
  rw [show (⟨#[45]⟩ : ByteArray) = ba [45] from rfl, ba_append, ba_append]
  unfold rangeText
  rw [List.append_assoc]
  rfl

theorem text_two (a m n b : Nat) : ((((((ba (dig a) ++ ⟨#[45]⟩) ++ ba (dig m)) ++ ⟨#[44]⟩) ++ ba (dig n)) ++ ⟨#[45]⟩) ++ ba (dig b)) = ba (rangeText a m ++ 44 :: rangeText n b) := by
  rw [text_one, show (⟨#[44]⟩ : ByteArray) = ba [44] from rfl, show (⟨#[45]⟩ : ByteArray) = ba [45] from rfl, ba_append, ba_append, ba_append, ba_append]
  congr 1
  unfold rangeText
  simp

theorem dig_len (i : Nat) (hi : i < 100) : (dig i).length ≤ 2 := by
  have h : ∀ i : Fin 100, (dig i.val).length ≤ 2 := by decide
  exact h ⟨i, hi⟩

theorem text_size (a b : Nat) (ha : a < 100) (hb : b < 100) : (rangeText a b).length ≤ 5 := by
  have h1 := dig_len a ha
  have h2 := dig_len b hb
  unfold rangeText
  simp only [List.length_append, List.length_cons]
  omega

set_option maxRecDepth 100000 in
theorem lawRangeParted_any (kind low middle high : Int) (hlw : (Lit.int .i64 low).wf = true) (hmw : (Lit.int .i64 middle).wf = true) (hhw : (Lit.int .i64 high).wf = true) (w : World) (hg : G w) :
    Calls Tryd.prog 5 #[.int .i64 kind, .int .i64 low, .int .i64 middle, .int .i64 high] w fun e w' => e = .returned (.bool true) ∧ Below w.heap.size w w' := by
  have HK := Lib.hid (fun w' => isKind_any kind w')
  by_cases h2 : 0 ≤ kind ∧ kind < 6
  rotate_left
  · rw [decide_eq_false h2] at HK
    clear h2
    go_enter Tryd.func5, Tryd.ntmps5
    go_wp2_with (go_at_call 8; go_must (refine (HK.out _).mono ?_); rintro e w1 ⟨rfl, hb1⟩)
    go_ret
    exact ⟨rfl, hb1⟩
  rw [decide_eq_true h2] at HK
  obtain ⟨k, rfl⟩ : ∃ k : Nat, kind = k := ⟨kind.toNat, by omega⟩
  have hk : k < 6 := by omega
  clear h2
  have HL := Lib.hid (fun w' => cronLow_any k w')
  have HH := Lib.hid (fun w' => cronHigh_any k w')
  by_cases c1 : low < (loK k : Nat)
  · generalize loK k = lo at *
    go_enter Tryd.func5, Tryd.ntmps5
    go_wp2_with (first | (go_at_call 8; go_must (refine (HK.out _).mono ?_); rintro e w1 ⟨rfl, hb1⟩) | (go_at_call 15; go_must (refine (HL.out _).mono ?_); rintro e w2 ⟨rfl, hb2⟩))
    go_ret
    exact ⟨rfl, below_of_le hb1 hb2⟩
  by_cases c2 : (hiK k : Nat) < high
  · generalize loK k = lo at *
    generalize hiK k = hi at *
    go_enter Tryd.func5, Tryd.ntmps5
    go_wp2_with (first | (go_at_call 8; go_must (refine (HK.out _).mono ?_); rintro e w1 ⟨rfl, hb1⟩) | (go_at_call 15; go_must (refine (HL.out _).mono ?_); rintro e w2 ⟨rfl, hb2⟩) | (go_at_call 16; go_must (refine (HH.out _).mono ?_); rintro e w3 ⟨rfl, hb3⟩))
    go_ret
    exact ⟨rfl, below_of_le (below_of_le hb1 hb2) hb3⟩
  by_cases c3 : middle < low
  · generalize loK k = lo at *
    generalize hiK k = hi at *
    go_enter Tryd.func5, Tryd.ntmps5
    go_wp2_with (first | (go_at_call 8; go_must (refine (HK.out _).mono ?_); rintro e w1 ⟨rfl, hb1⟩) | (go_at_call 15; go_must (refine (HL.out _).mono ?_); rintro e w2 ⟨rfl, hb2⟩) | (go_at_call 16; go_must (refine (HH.out _).mono ?_); rintro e w3 ⟨rfl, hb3⟩))
    go_ret
    exact ⟨rfl, below_of_le (below_of_le hb1 hb2) hb3⟩
  by_cases c4 : high ≤ middle
  · generalize loK k = lo at *
    generalize hiK k = hi at *
    go_enter Tryd.func5, Tryd.ntmps5
    go_wp2_with (first | (go_at_call 8; go_must (refine (HK.out _).mono ?_); rintro e w1 ⟨rfl, hb1⟩) | (go_at_call 15; go_must (refine (HL.out _).mono ?_); rintro e w2 ⟨rfl, hb2⟩) | (go_at_call 16; go_must (refine (HH.out _).mono ?_); rintro e w3 ⟨rfl, hb3⟩))
    go_ret
    exact ⟨rfl, below_of_le (below_of_le hb1 hb2) hb3⟩
  have hhi := hiK_le k
  obtain ⟨a, rfl⟩ : ∃ a : Nat, low = a := ⟨low.toNat, by omega⟩
  obtain ⟨m, rfl⟩ : ∃ m : Nat, middle = m := ⟨middle.toNat, by omega⟩
  obtain ⟨b, rfl⟩ : ∃ b : Nat, high = b := ⟨high.toNat, by omega⟩
  have ha : a < 62 := by omega
  have hm : m < 62 := by omega
  have hb : b < 63 := by omega
  have HA := Lib.hid (fun w' hg' => thinCronField_any k hk (valK k) (bounds_read k hk) (ba (rangeText a b)) (by rw [ba_size]; have := text_size a b (by omega) (by omega); omega) w' hg')
  have HB := Lib.hid (fun w' hg' => thinCronField_any k hk (valK k) (bounds_read k hk) (ba (rangeText a m ++ 44 :: rangeText (m + 1) b)) (by rw [ba_size, List.length_append, List.length_cons]; have h1 := text_size a m (by omega) (by omega); have h2 := text_size (m + 1) b (by omega) (by omega); omega) w' hg')
  rw [ba_list, fieldS_one k _ _ a b (by omega) (by omega) (by omega) (by omega)] at HA
  rw [ba_list, fieldS_two k _ _ a m b (by omega) (by omega) (by omega) (by omega) (by omega)] at HB
  rw [← text_one a b] at HA
  rw [← text_two a m (m + 1) b] at HB
  generalize loK k = lo at *
  generalize hiK k = hi at *
  generalize steps a b 1 = st at *
  have HI1 := Lib.hid (fun w' => itoa_any a (by omega) w')
  have HI2 := Lib.hid (fun w' => itoa_any m (by omega) w')
  have HI3 := Lib.hid (fun w' => itoa_any (m + 1) (by omega) w')
  have HI4 := Lib.hid (fun w' => itoa_any b (by omega) w')
  have hza : (ba (dig a)).size ≤ 2 := by rw [ba_size]; exact dig_len a (by omega)
  have hzm : (ba (dig m)).size ≤ 2 := by rw [ba_size]; exact dig_len m (by omega)
  have hzn : (ba (dig (m + 1))).size ≤ 2 := by rw [ba_size]; exact dig_len (m + 1) (by omega)
  have hzb : (ba (dig b)).size ≤ 2 := by rw [ba_size]; exact dig_len b (by omega)
  generalize dig a = da at *
  generalize dig m = dm at *
  generalize dig (m + 1) = dn at *
  generalize dig b = db at *
  go_enter Tryd.func5, Tryd.ntmps5
  go_wp2_with (first | (go_at_call 8; go_must (refine (HK.out _).mono ?_); rintro e w1 ⟨rfl, hb1⟩) | (go_at_call 15; go_must (refine (HL.out _).mono ?_); rintro e w2 ⟨rfl, hb2⟩) | (go_at_call 16; go_must (refine (HH.out _).mono ?_); rintro e w3 ⟨rfl, hb3⟩))
  have hB3 := below_of_le (below_of_le hb1 hb2) hb3
  refine (HI1.out _).mono ?_
  rintro e w4 ⟨rfl, rfl⟩
  go_wp2_with fail
  refine (HI4.out _).mono ?_
  rintro e w5 ⟨rfl, rfl⟩
  go_wp2_with fail
  refine (HA.out _ (hg.below hB3)).mono ?_
  rintro e w6 ⟨rfl, hb6⟩
  have hB6 := below_of_le hB3 hb6
  go_wp2_with fail
  refine (HI1.out _).mono ?_
  rintro e w7 ⟨rfl, rfl⟩
  go_wp2_with fail
  refine (HI2.out _).mono ?_
  rintro e w7 ⟨rfl, rfl⟩
  go_wp2_with fail
  refine (HI3.out _).mono ?_
  rintro e w7 ⟨rfl, rfl⟩
  go_wp2_with fail
  refine (HI4.out _).mono ?_
  rintro e w7 ⟨rfl, rfl⟩
  go_wp2_with fail
  refine (HB.out _ (hg.below hB6)).mono ?_
  rintro e w8 ⟨rfl, hb8⟩
  have hB8 := below_of_le hB6 hb8
  go_wp2_with fail
  go_ret
  exact ⟨rfl, hB8⟩

end Go.Proofs.YtikgnpachlgakaaDoor.Cron
