/- The walk of the law FnCronFieldOfKind. -/
import Derived.Test.YtikgnpachlgakaaDoorFields
import Derived.Test.YtikgnpachlgakaaDoorCronField
namespace Go.Proofs.YtikgnpachlgakaaDoor.Cron
open Go Go.RowKit Go.Proofs.YtikgnpachlgakaaDoor.Text Go.Proofs.YtikgnpachlgakaaDoor.Bits
set_option linter.unusedVariables false

theorem isSet_box (w : World) (o : Obj) (h : ∀ w' : World, IsSet (w'.alloc o) w'.heap.size false noSet) (star : Bool) (p : Nat → Bool) : Below w.heap.size w ((w.alloc o).setRow w.heap.size (setCells star p)) :=
  below_setRow ((Below.refl _ _).alloc (Nat.le_refl _) _) (Nat.le_refl _) _

theorem lawFieldOfKind_any (kind : Int) (s : ByteArray) (hs : s.size ≤ 140737488351232) (w : World) (hg : G w) :
    Calls Tryd.prog 6 #[.int .i64 kind, .string s] w fun e w' => e = .returned (.bool true) ∧ Below w.heap.size w w' := by
  by_cases h1 : 2147483647 < s.size
  · go_enter Tryd.func6, Tryd.ntmps6
    go_wp2_with fail
    go_ret
    exact ⟨rfl, Below.refl _ _⟩
  by_cases h2 : kind < 0
  · go_enter Tryd.func6, Tryd.ntmps6
    go_wp2_with fail
    go_ret
    exact ⟨rfl, Below.refl _ _⟩
  by_cases h3 : 3 < kind
  · go_enter Tryd.func6, Tryd.ntmps6
    go_wp2_with fail
    go_ret
    exact ⟨rfl, Below.refl _ _⟩
  by_cases h4 : 65536 < s.size
  · go_enter Tryd.func6, Tryd.ntmps6
    go_wp2_with fail
    go_ret
    exact ⟨rfl, Below.refl _ _⟩
  obtain ⟨k, rfl⟩ : ∃ k : Nat, kind = k := ⟨kind.toNat, by omega⟩
  have hk : k < 4 := by omega
  have hlo := loK_le k
  have hhi := hiK_le k
  have HA := Lib.hid (fun w' hg' => thinCronField_any k (by omega) mp (bounds_plain k hk) s (by omega) w' hg')
  have HB := Lib.hid (fun w' hg' => thinCronFieldIn_any (loK k) (hiK k) s (by omega) hlo hhi w' hg')
  have HC := Lib.hid (fun w' => cronField_any mp k (value_plain (by omega) (by omega)) (loK k) (hiK k) s (by omega) hlo hhi w')
  have HL := Lib.hid (fun w' => cronLow_any k w')
  have HH := Lib.hid (fun w' => cronHigh_any k w')
  have HO := Lib.hid (fun w' => boundsOf_any k w')
  generalize loK k = lo at *
  generalize hiK k = hi at *
  generalize fieldS mp lo hi s.data.toList = r at *
  go_enter Tryd.func6, Tryd.ntmps6
  go_wp2_with fail
  refine (HA.out _ hg).mono ?_
  rintro e w1 ⟨rfl, hb1⟩
  go_wp2_with fail
  refine (HL.out _).mono ?_
  rintro e w2 ⟨rfl, hb2⟩
  have hB2 := below_of_le hb1 hb2
  go_wp2_with fail
  refine (HH.out _).mono ?_
  rintro e w3 ⟨rfl, hb3⟩
  have hB3 := below_of_le hB2 hb3
  clear hb1 hb2 hb3 hB2
  go_wp2_with fail
  refine (HB.out _ (hg.below hB3)).mono ?_
  rintro e w4 ⟨rfl, hb4⟩
  have hB4 := below_of_le hB3 hb4
  clear hb4 hB3
  go_wp2_with fail
  refine (HO.out _).mono ?_
  rintro e w5 ⟨rfl, hb5⟩
  have hB5 := below_of_le hB4 hb5
  clear hb5 hB4
  go_wp2_with fail
  refine (HC.out _).mono ?_
  rintro e w6 ⟨star, p, v, rfl, hi6, hb6⟩
  have hB6 := below_of_le hB5 hb6
  have HN := Lib.hid (isSet_lit w6)
  have HB7 := Lib.hid (fun o => below_of_le hB6 (below_setRow ((Below.refl w6.heap.size w6).alloc (Nat.le_refl _) o) (Nat.le_refl _) (setCells star p)))
  have hdone : r.isSome = true ∨ (v == 1) = false := by
    rcases hi6.vs with h | h | h
    · exact .inr (by simp [h])
    · exact .inl (by rw [hi6.fine h]; rfl)
    · exact .inr (by simp [h])
  have HD := Lib.hid hdone
  clear hb6 hB5 hB6 hdone hi6 HA HB HC HL HH HO
  cases r with
  | none =>
    have hv : (v == 1) = false := by simpa using HD.out
    have hv2 : (v != 1) = true := by simpa using hv
    clear hv HD
    go_wp2_with (refine wpList_store_set rfl _ _ rfl w6.heap.size star p rfl rfl false noSet HN.out ?_)
    go_ret
    exact ⟨rfl, HB7.out _⟩
  | some b =>
    clear HD
    go_wp2_with (refine wpList_store_set rfl _ _ rfl w6.heap.size star p rfl rfl false noSet HN.out ?_)
    go_ret
    exact ⟨rfl, HB7.out _⟩

end Go.Proofs.YtikgnpachlgakaaDoor.Cron
