/- Lemmas and walks on the way to the law, merged by wip/tools/pack.py: Words, RangeText, Standard, ItoaS, LawYear, YearWalk. Conditions: none. -/
import Derived.Test.YtmecbmgfacpecaaGreatDoorGrH
import Derived.Test.YtmecbmgfacpecaaGreatDoorGrI
import Derived.Test.YtmecbmgfacpecaaGreatDoorPrA
import Derived.Test.YtmecbmgfacpecaaGreatDoorGrG
import Derived.Test.YtmecbmgfacpecaaGreatDoorGrE
import Derived.Test.YtmecbmgfacpecaaGreatDoorGrF
import Derived.Test.YtmecbmgfacpecaaGreatDoorRows
import Derived.OpenShut
namespace Go.Proofs.YtmecbmgfacpecaaGreatDoor.Cron
open Go Go.RowKit Go.Proofs.YtmecbmgfacpecaaGreatDoor.Text Go.Proofs.YtmecbmgfacpecaaGreatDoorW.PrintWords Go.Proofs.YtmecbmgfacpecaaGreatDoorW.PrintLast Go.Proofs.YtmecbmgfacpecaaGreatDoor.Pr
set_option linter.unusedVariables false
set_option linter.unusedSimpArgs false

def Ascii (s : ByteArray) : Prop := ∀ c ∈ s.data.toList, c.toNat < 128

/-- words with a blank between each two of them -/
def joinL : List ByteArray → List UInt8
  | [] => []
  | x :: xs => x.data.toList ++ joinTail xs
where joinTail : List ByteArray → List UInt8
  | [] => []
  | x :: xs => 32 :: x.data.toList ++ joinTail xs

/-! ## The words of words joined by blanks -/

theorem join_tail (xs : List ByteArray) (hx : ∀ x ∈ xs, x.data.toList ≠ [] ∧ ∀ c ∈ x.data.toList, c ≠ 32) : partsL 32 (joinL.joinTail xs) = xs.map fun x => x.data.toList := by
  induction xs with
  | nil => rfl
  | cons x xs ih =>
    have ih := ih fun y hy => hx y (List.mem_cons_of_mem _ hy)
    obtain ⟨h1, h2⟩ := hx x (List.mem_cons_self ..)
    unfold joinL.joinTail
    cases xs with
    | nil =>
      simp only [joinL.joinTail, List.append_nil, List.cons_append]
      unfold partsL
      rw [splitL_cons_eq, splitL_plain _ h2, List.filter_cons_of_neg (by simp), List.filter_cons_of_pos (by simpa using h1)]
      rfl
    | cons y ys =>
      have e : (32 : UInt8) :: x.data.toList ++ joinL.joinTail (y :: ys) = 32 :: (x.data.toList ++ 32 :: (y.data.toList ++ joinL.joinTail ys)) := by simp [joinL.joinTail]
      rw [e]
      unfold partsL at ih ⊢
      rw [splitL_cons_eq, List.filter_cons_of_neg (by simp), splitL_part _ _ h2, List.filter_cons_of_pos (by simpa using h1)]
      have e2 : joinL.joinTail (y :: ys) = 32 :: (y.data.toList ++ joinL.joinTail ys) := rfl
      rw [e2, splitL_cons_eq, List.filter_cons_of_neg (by simp)] at ih
      rw [ih]
      rfl

theorem join_parts (xs : List ByteArray) (hx : ∀ x ∈ xs, x.data.toList ≠ [] ∧ ∀ c ∈ x.data.toList, c ≠ 32) : partsL 32 (joinL xs) = xs.map fun x => x.data.toList := by
  have h := join_tail xs hx
  cases xs with
  | nil => rfl
  | cons x xs =>
    have e2 : joinL.joinTail (x :: xs) = 32 :: joinL (x :: xs) := by simp [joinL, joinL.joinTail]
    rw [e2] at h
    unfold partsL at h ⊢
    rw [splitL_cons_eq, List.filter_cons_of_neg (by simp)] at h
    exact h

theorem spans_same (p q : Nat → Bool) (s : ByteArray) (ha : Ascii s) (h : ∀ c ∈ s.data.toList, p c.toNat = q c.toNat) : ∀ (f pos : Nat) (st : Option Nat) (acc : List (Nat × Nat)), Lib.spansFromP p s f pos st acc = Lib.spansFromP q s f pos st acc
  | 0, _, _, _ => rfl
  | f + 1, pos, st, acc => by
    unfold Lib.spansFromP
    by_cases hlt : pos < s.size
    · have hl : pos < s.data.toList.length := by rw [← size_list]; exact hlt
      have hm := List.getElem_mem hl
      have hdec := (dec_at _ (ha _ hm) s pos hlt).1 (List.getElem?_eq_getElem hl)
      have hpq := h _ hm
      rw [if_pos hlt, if_pos hlt, hdec]
      simp only [hpq]
      split <;> (cases st <;> exact spans_same p q s ha h f _ _ _)
    · rw [if_neg hlt, if_neg hlt]

/-- a word: not empty, and without a blank -/
def Word (x : ByteArray) : Prop := x.data.toList ≠ [] ∧ ∀ c ∈ x.data.toList, spaceZ c.toNat = false

theorem fields_join (xs : List ByteArray) (hx : ∀ x ∈ xs, Word x) (ha : Ascii (ba (joinL xs))) : fieldsZ (ba (joinL xs)) = xs := by
  have hmem : ∀ (ys : List ByteArray), (∀ x ∈ ys, Word x) → ∀ c ∈ joinL.joinTail ys, c = 32 ∨ spaceZ c.toNat = false := by
    intro ys
    induction ys with
    | nil => intro _ c hc; cases hc
    | cons y ys ih =>
      intro hy c hc
      unfold joinL.joinTail at hc
      rcases List.mem_append.1 hc with hc | hc
      · rcases List.mem_cons.1 hc with rfl | hc
        · exact .inl rfl
        · exact .inr ((hy y (List.mem_cons_self ..)).2 c hc)
      · exact ih (fun z hz => hy z (List.mem_cons_of_mem _ hz)) c hc
  have hall : ∀ c ∈ joinL xs, c = 32 ∨ spaceZ c.toNat = false := by
    cases xs with
    | nil => intro c hc; cases hc
    | cons x xs =>
      intro c hc
      unfold joinL at hc
      rcases List.mem_append.1 hc with hc | hc
      · exact .inr ((hx x (List.mem_cons_self ..)).2 c hc)
      · exact hmem xs (fun z hz => hx z (List.mem_cons_of_mem _ hz)) c hc
  have hsame := spans_same spaceZ (fun r => r == (32 : UInt8).toNat) (ba (joinL xs)) ha (fun c hc => by
    rw [ba_list] at hc
    rcases hall c hc with rfl | h
    · rfl
    · rw [h]
      symm
      rw [beq_eq_false_iff_ne]
      intro e
      rw [e] at h
      exact absurd h (by decide))
  have hgo := goFields_parts 32 (by decide) (ba (joinL xs))
  unfold fieldsZ Lib.goFieldsP Lib.spansOfP at *
  rw [hsame _ _ _ _, hgo, ba_list, join_parts xs fun x hxm => ⟨(hx x hxm).1, fun c hc e => by
    subst e
    exact absurd ((hx x hxm).2 _ hc) (by decide)⟩, List.map_map]
  have : ∀ x : ByteArray, (ba ∘ fun x : ByteArray => x.data.toList) x = x := fun x => ba_of x
  rw [List.map_congr_left (g := id) (fun x _ => this x), List.map_id]

end Go.Proofs.YtmecbmgfacpecaaGreatDoor.Cron

namespace Go.Proofs.YtmecbmgfacpecaaGreatDoor.Cron
open Go Go.RowKit Go.Proofs.YtmecbmgfacpecaaGreatDoor.Text Go.Proofs.YtmecbmgfacpecaaGreatDoor.Bits
set_option linter.unusedVariables false

/-- the digits of a number below 100 -/
def dig (i : Nat) : List UInt8 := if i < 10 then [UInt8.ofNat (48 + i)] else [UInt8.ofNat (48 + i / 10), UInt8.ofNat (48 + i % 10)]

theorem decDigits_dig (i : Nat) (h : i < 100) : Lib.decDigits i = dig i := by
  unfold Lib.decDigits dig
  by_cases h1 : i < 10
  · rw [dif_pos h1, if_pos h1]
  · rw [dif_neg h1, if_neg h1, Lib.decDigits, dif_pos (by omega)]
    rfl

theorem dig_range : ∀ i : Fin 100, ∀ c ∈ dig i.val, 48 ≤ c.toNat ∧ c.toNat ≤ 57 := by decide
theorem dig_months : ∀ i : Fin 100, lookL (ba (dig i.val)) monthsL = none := by decide
theorem dig_dow : ∀ i : Fin 100, lookL (ba (dig i.val)) dowL = none := by decide
theorem dig_mp : ∀ i : Fin 100, mp (dig i.val) = some i.val := by decide

theorem dig_low (i : Nat) (h : i < 100) : lowB (ba (dig i)) = ba (dig i) := by
  have hr := dig_range ⟨i, h⟩
  rw [low_ascii (ba (dig i)) (by rw [ba_list]; intro c hc; have := hr c hc; omega), ba_list]
  congr 1
  rw [List.map_congr_left (g := id)]
  · simp
  · intro c hc
    have := hr c hc
    unfold low8
    rw [if_neg (by omega)]
    rfl

theorem valK_dig (k i : Nat) (h : i < 100) : valK k (dig i) = some i := by
  unfold valK
  by_cases h4 : k = 4
  · rw [if_pos h4, valN, dig_low i h, dig_months ⟨i, h⟩]
    exact dig_mp ⟨i, h⟩
  · rw [if_neg h4]
    by_cases h5 : k = 5
    · rw [if_pos h5, valN, dig_low i h, dig_dow ⟨i, h⟩]
      exact dig_mp ⟨i, h⟩
    · rw [if_neg h5]
      exact dig_mp ⟨i, h⟩

theorem dig_ne (i : Nat) (h : i < 100) (c : UInt8) (hc : c.toNat < 48) : ∀ x ∈ dig i, x ≠ c := by
  intro x hx e
  have := dig_range ⟨i, h⟩ x hx
  subst e
  omega

theorem dig_star (i : Nat) (h : i < 100) : ¬ (dig i = [42] ∨ dig i = [63]) := by
  rintro (e | e)
  · have := dig_range ⟨i, h⟩ 42 (by show (42 : UInt8) ∈ dig i; rw [e]; simp)
    exact absurd this (by decide)
  · have := dig_range ⟨i, h⟩ 63 (by show (63 : UInt8) ∈ dig i; rw [e]; simp)
    exact absurd this (by decide)

end Go.Proofs.YtmecbmgfacpecaaGreatDoor.Cron

namespace Go.Proofs.YtmecbmgfacpecaaGreatDoor.Cron
open Go Go.RowKit Go.Proofs.YtmecbmgfacpecaaGreatDoor.Text Go.Proofs.YtmecbmgfacpecaaGreatDoor.Bits Go.Proofs.YtmecbmgfacpecaaGreatDoorW.PrintWords Go.Proofs.YtmecbmgfacpecaaGreatDoorW.PrintLast
set_option linter.unusedVariables false
set_option linter.unusedSimpArgs false

theorem standardParser_any (w : World) : Calls Tryz.prog 112 #[] w fun e w' => e = .returned (.agg #[.int .i64 380]) ∧ Below w.heap.size w w' := by
  have HN := Lib.hid (fun w' => newParser_ok 380 (by omega) (by decide) w')
  go_enter Tryz.func112, Tryz.ntmps112
  go_wp2_with fail
  refine (HN.out _).mono ?_
  rintro e w1 ⟨rfl, hb1⟩
  have hB : Below w.heap.size w w1 := ((Below.refl _ _).alloc (Nat.le_refl _) _).trans (hb1.mono (by simp))
  have c1 : w1.cell? ⟨w.heap.size, 0, none⟩ = some (.int .i64 0) := (hb1.cell (p := ⟨w.heap.size, 0, none⟩) (by simp)).trans (by simp [go_sem])
  have f1 : w1.frozen? ⟨w.heap.size, 0, none⟩ = false := (hb1.frozen (p := ⟨w.heap.size, 0, none⟩) (by simp)).trans (by simp [go_sem])
  clear hb1
  go_wp2_with fail
  exact bodyPost_ret (v := .agg #[.int .i64 380]) (by simp [results, Tryz.results112, go_sem, c1]) rfl ⟨rfl, hB.setCell (p := ⟨w.heap.size, 0, none⟩) (Nat.le_refl _) _⟩

theorem standardPlain (s : ByteArray) (hs : s.size ≤ 4294967296) (h1 : Lib.hasPrefix s.data.toList [84, 90, 61] = false) (h2 : Lib.hasPrefix s.data.toList [67, 82, 79, 78, 95, 84, 90, 61] = false)
    (h3 : Lib.hasPrefix s.data.toList [64] = false) (w : World) (hg : G w) :
    Calls Tryz.prog 63 #[.string s] w (ParseAns w (parseS s 380)) := by
  have HP := Lib.hid (fun w' => standardParser_any w')
  have HC := Lib.hid (fun w' hg' => parsePlain 380 (by omega) s hs h1 h2 h3 w' hg')
  have HG := Lib.hid (fun w' (h : Below w.heap.size w w') => hg.below h)
  clear h1 h2 h3 hg
  generalize parseS s 380 = r at *
  go_enter Tryz.func63, Tryz.ntmps63
  go_wp2_with fail
  refine (HP.out _).mono ?_
  rintro e w1 ⟨rfl, hb1⟩
  have HB1 := Lib.hid hb1
  clear hb1
  go_wp2_with fail
  refine (HC.out _ (HG.out _ HB1.out)).mono ?_
  intro e w2 hP
  obtain ⟨hres, hb2⟩ := hP
  have HB2 := Lib.hid (below_of_le HB1.out hb2)
  clear hb2 HC HG HP HB1
  cases r with
  | none =>
    obtain ⟨t, x, rfl⟩ := hres
    go_wp2_with fail
    go_ret2
    exact ⟨⟨t, x, rfl⟩, HB2.out⟩
  | some l =>
    obtain ⟨g, rfl, hg⟩ := hres
    have HGG := Lib.hid hg
    clear hg
    go_wp2_with fail
    go_ret2
    exact ⟨⟨g, rfl, HGG.out⟩, HB2.out⟩

theorem parseStandard_any (s : ByteArray) (hs : s.size ≤ 4294967296) (h1 : Lib.hasPrefix s.data.toList [84, 90, 61] = false) (h2 : Lib.hasPrefix s.data.toList [67, 82, 79, 78, 95, 84, 90, 61] = false)
    (h3 : Lib.hasPrefix s.data.toList [64] = false) (w : World) (hg : G w) :
    Calls Tryz.prog 25 #[.string s] w (CronAns w (parseS s 380)) := by
  have HC := Lib.hid (fun w' hg' => standardPlain s hs h1 h2 h3 w' hg')
  have HG := Lib.hid (fun w' (h : Below w.heap.size w w') => hg.below h)
  clear h1 h2 h3 hg
  generalize parseS s 380 = r at *
  go_enter Tryz.func25, Tryz.ntmps25
  go_wp2_with fail
  refine (HC.out _ (HG.out _ ((Below.refl _ _).alloc (Nat.le_refl _) _))).mono ?_
  intro e w2 hP
  obtain ⟨hres, hb2⟩ := hP
  have HB2 := Lib.hid (below_of_le ((Below.refl w.heap.size w).alloc (Nat.le_refl _) _) hb2)
  have HROW2 := Lib.hid (show w2.heap[w.heap.size]? = some (.cells noSched 26 (0, 0)) from (hb2.block _ (by simp)).trans (heap_alloc_new w _))
  clear hb2 HC HG
  cases r with
  | none =>
    obtain ⟨t, x, rfl⟩ := hres
    go_wp2_with fail
    refine (plainSched_bad _ _ _ _).mono ?_
    rintro e w3 ⟨rfl, hb3⟩
    have hrow3 := (hb3.block _ (Array.getElem?_eq_some_iff.1 HROW2.out).1).trans HROW2.out
    have HROW3 := Lib.hid hrow3
    have HB3 := Lib.hid (below_of_le HB2.out hb3)
    clear hrow3 hb3
    go_wp2_with (refine wpList_store_sched rfl _ _ rfl w.heap.size noSched noSched rfl rfl rfl noSched_one rfl HROW3.out ?_)
    refine bodyPost_ret (v := .tuple #[.agg noSched, .bool false]) ?_ rfl ⟨rfl, ?_⟩
    · exact results_sched (fn := Tryz.f25) (p := 2) (u := 3) rfl _ _ w.heap.size _ rfl rfl (setRow_heap _ _ _ _ _ _ HROW3.out)
    · exact below_setRow HB3.out (Nat.le_refl _) _
  | some l =>
    obtain ⟨g, rfl, hg⟩ := hres
    have HGG := Lib.hid hg
    clear hg
    go_wp2_with fail
    refine (plainSched_ok l g none _ HGG.out).mono ?_
    rintro e w3 ⟨rfl, hb3⟩
    have hrow3 := (hb3.block _ (Array.getElem?_eq_some_iff.1 HROW2.out).1).trans HROW2.out
    have HROW3 := Lib.hid hrow3
    have HB3 := Lib.hid (below_of_le HB2.out hb3)
    clear hrow3 hb3
    go_wp2_with (refine wpList_store_sched rfl _ _ rfl w.heap.size (schedCells l) noSched rfl rfl rfl (sched_one l) rfl HROW3.out ?_)
    refine bodyPost_ret (v := .tuple #[.agg (schedCells l), .bool true]) ?_ rfl ⟨rfl, ?_⟩
    · exact results_sched (fn := Tryz.f25) (p := 2) (u := 3) rfl _ _ w.heap.size _ rfl rfl (setRow_heap _ _ _ _ _ _ HROW3.out)
    · exact below_setRow HB3.out (Nat.le_refl _) _

/-! ## Five words -/
theorem norm_five (l : List ByteArray) (h : l.length = 5) : normF l 380 = some (⟨#[48]⟩ :: l) := by
  obtain ⟨a, b, c, d, e, rfl⟩ : ∃ a b c d e, l = [a, b, c, d, e] := by
    match l, h with
    | [a, b, c, d, e], _ => exact ⟨a, b, c, d, e, rfl⟩
  have h1 : nOpt 380 = 0 := by decide
  have h2 : takenN (optAll 380) placesL = 5 := by decide
  have h3 : optAll 380 = 380 := by decide
  unfold normF
  rw [h1, h2, h3, if_neg (by omega), if_neg (by simp), if_neg (by omega)]
  simp [fillL, placesL, defaultsL]

theorem parse_five (l : List ByteArray) (h : l.length = 5) (hw : ∀ x ∈ l, Word x) (ha : Ascii (ba (joinL l))) : parseS (ba (joinL l)) 380 = sixS (⟨#[48]⟩ :: l) := by
  unfold parseS
  rw [fields_join l hw ha, norm_five l h]
  have hne : (ba (joinL l)).size ≠ 0 := by
    intro e
    match l, h, hw with
    | x :: xs, _, hw =>
      have hx := (hw x (List.mem_cons_self ..)).1
      rw [ba_size] at e
      simp only [joinL, List.length_append] at e
      have : x.data.toList.length ≠ 0 := fun h0 => hx (List.length_eq_zero_iff.1 h0)
      omega
  rw [if_neg hne]
  rfl

theorem dig_nonempty (i : Nat) : dig i ≠ [] := by unfold dig; split <;> simp
theorem rangeS_dig (k lo hi a : Nat) (h1 : lo ≤ a) (h2 : a ≤ hi) (hh : hi < 100) : rangeS (valK k) lo hi (dig a) = some (steps a a 1) := by
  have ha : a < 100 := by omega
  rw [rangeS_some (splitL_plain _ (dig_ne a ha 47 (by decide))) (splitL_plain _ (dig_ne a ha 45 (by decide))) (a := a) (b := a) (st := false) (by
    rw [ends_else _ (dig_star a ha), valK_dig k a ha]
    rfl)]
  simp only [rangeFin, stepOf, bitsOf]
  rw [if_neg (by omega), if_neg (by omega), if_neg (by omega), if_neg (by omega)]
  simp
theorem steps_one_all : ∀ a : Fin 64, steps a.val a.val 1 = 2 ^ a.val := by decide +kernel
theorem fieldS_dig (k lo hi a : Nat) (h1 : lo ≤ a) (h2 : a ≤ hi) (hh : hi < 64) : fieldS (valK k) lo hi (dig a) = some (2 ^ a) := by
  have hp : partsL 44 (dig a) = [dig a] := by
    unfold partsL
    rw [splitL_plain _ (dig_ne a (by omega) 44 (by decide))]
    rw [List.filter_cons_of_pos (by simpa using dig_nonempty a), List.filter_nil]
  unfold fieldS
  rw [hp]
  simp only [fieldGo]
  rw [rangeS_dig k lo hi a h1 h2 (by omega)]
  simp only [Nat.zero_or]
  rw [steps_one_all ⟨a, by omega⟩]
theorem fieldS_star5 : fieldS (valK 5) 0 6 [42] = some 9223372036854775935 := by decide +kernel
end Go.Proofs.YtmecbmgfacpecaaGreatDoor.Cron

namespace Go.Proofs.YtmecbmgfacpecaaGreatDoor.Cron
open Go Go.RowKit Go.Proofs.YtmecbmgfacpecaaGreatDoor.Text Go.Proofs.YtmecbmgfacpecaaGreatDoor.Bits
set_option linter.unusedVariables false
theorem itoaS_any (i : Nat) (hi : i < 100) (w : World) : Calls Tryz.prog 31 #[.int .i64 i] w fun e w' => e = .returned (.string (ba (dig i))) ∧ w' = w := by
  have HC := Lib.hid (fun w' : World => Tryz.internal_strconv_Itoa_small i hi w')
  rw [decDigits_dig i hi] at HC
  go_enter Tryz.func31, Tryz.ntmps31
  go_wp2_with fail
  refine (HC.out _).mono ?_
  rintro e w' ⟨rfl, rfl⟩
  go_wp2_with fail
  go_ret
  exact ⟨rfl, rfl⟩
end Go.Proofs.YtmecbmgfacpecaaGreatDoor.Cron

namespace Go.Proofs.YtmecbmgfacpecaaGreatDoor.Cron
open Go Go.RowKit Go.Proofs.YtmecbmgfacpecaaGreatDoor.Text Go.Proofs.YtmecbmgfacpecaaGreatDoor.Bits Go.Proofs.YtmecbmgfacpecaaGreatDoorW.PrintWords Go.Proofs.YtmecbmgfacpecaaGreatDoorW.PrintLast Go.Proofs.YtmecbmgfacpecaaGreatDoor.Cal Go.Proofs.YtmecbmgfacpecaaGreatDoor.Pr
open Go.Proofs.YtmecbmgfacpecaaGreatDoor.CronN (goodB goodB_iff good_any nextUtc_any cronUtc_any instant_any whole_any mdays_any civilUtc_any CivilAns row_keep row_lt wpList_load_rowG run_alloc_inst instZ InstRow instRow_of exec_alloc_inst w64 dayOf_bd)
set_option linter.unusedVariables false
set_option linter.unusedSimpArgs false

/-- the words of a yearly time -/
def yWords (m h d n : Nat) : List ByteArray := [ba (dig m), ba (dig h), ba (dig d), ba (dig n), ⟨#[42]⟩]
theorem yText_eq (m h d n : Nat) : ba (dig m) ++ ⟨#[32]⟩ ++ ba (dig h) ++ ⟨#[32]⟩ ++ ba (dig d) ++ ⟨#[32]⟩ ++ ba (dig n) ++ ⟨#[32, 42]⟩ = ba (joinL (yWords m h d n)) := by
  apply ByteArray.ext
  simp [ba, joinL, joinL.joinTail, yWords]
theorem word_dig (i : Nat) (hi : i < 100) : Word (ba (dig i)) := by
  refine ⟨by rw [ba_list]; exact dig_nonempty i, fun c hc => ?_⟩
  rw [ba_list] at hc
  have := dig_range ⟨i, hi⟩ c hc
  have h2 : ∀ k : Fin 64, 48 ≤ k.val → spaceZ k.val = false := by decide +kernel
  exact h2 ⟨c.toNat, by omega⟩ this.1
theorem word_star : Word ⟨#[42]⟩ := ⟨by simp, fun c hc => by
  obtain rfl : c = 42 := by simpa using hc
  decide⟩
theorem ascii_y (m h d n : Nat) (hm : m < 100) (hh : h < 100) (hd : d < 100) (hn : n < 100) : Ascii (ba (joinL (yWords m h d n))) := by
  intro c hc
  rw [ba_list] at hc
  simp only [yWords, joinL, joinL.joinTail, List.mem_append, List.mem_cons, ba_list, List.cons_append, List.not_mem_nil, or_false, List.append_nil] at hc
  have k := fun i hi hc => dig_range ⟨i, hi⟩ c hc
  rcases hc with hc | rfl | hc | rfl | hc | rfl | hc | rfl | hc
  · have := k m hm hc; omega
  · decide
  · have := k h hh hc; omega
  · decide
  · have := k d hd hc; omega
  · decide
  · have := k n hn hc; omega
  · decide
  · obtain rfl : c = 42 := by simpa using hc
    decide
theorem parse_y (m h d n : Nat) (hm : m ≤ 59) (hh : h ≤ 23) (hd1 : 1 ≤ d) (hd : d ≤ 31) (hn1 : 1 ≤ n) (hn : n ≤ 12) :
    parseS (ba (joinL (yWords m h d n))) 380 = some [1, 2 ^ m, 2 ^ h, 2 ^ d, 2 ^ n, 9223372036854775935] := by
  rw [parse_five (yWords m h d n) rfl (by
    intro x hx
    simp only [yWords, List.mem_cons, List.not_mem_nil, or_false] at hx
    rcases hx with rfl | rfl | rfl | rfl | rfl
    · exact word_dig m (by omega)
    · exact word_dig h (by omega)
    · exact word_dig d (by omega)
    · exact word_dig n (by omega)
    · exact word_star) (ascii_y m h d n (by omega) (by omega) (by omega) (by omega))]
  have b0 : bitsAt (⟨#[48]⟩ :: yWords m h d n) 0 = some 1 := by
    show fieldS (valK 0) 0 59 [48] = some 1
    decide +kernel
  have b1 : bitsAt (⟨#[48]⟩ :: yWords m h d n) 1 = some (2 ^ m) := by
    show fieldS (valK 1) 0 59 (ba (dig m)).data.toList = _
    rw [ba_list]; exact fieldS_dig 1 0 59 m (by omega) hm (by omega)
  have b2 : bitsAt (⟨#[48]⟩ :: yWords m h d n) 2 = some (2 ^ h) := by
    show fieldS (valK 2) 0 23 (ba (dig h)).data.toList = _
    rw [ba_list]; exact fieldS_dig 2 0 23 h (by omega) hh (by omega)
  have b3 : bitsAt (⟨#[48]⟩ :: yWords m h d n) 3 = some (2 ^ d) := by
    show fieldS (valK 3) 1 31 (ba (dig d)).data.toList = _
    rw [ba_list]; exact fieldS_dig 3 1 31 d hd1 hd (by omega)
  have b4 : bitsAt (⟨#[48]⟩ :: yWords m h d n) 4 = some (2 ^ n) := by
    show fieldS (valK 4) 1 12 (ba (dig n)).data.toList = _
    rw [ba_list]; exact fieldS_dig 4 1 12 n hn1 hn (by omega)
  have b5 : bitsAt (⟨#[48]⟩ :: yWords m h d n) 5 = some 9223372036854775935 := fieldS_star5
  exact six_some b0 b1 b2 b3 b4 b5
theorem head_y (m : Nat) (hm : m < 100) (r : List UInt8) (p : UInt8) (q : List UInt8) (hp : ¬ (48 ≤ p.toNat ∧ p.toNat ≤ 57)) : Lib.hasPrefix (ba (dig m ++ r)).data.toList (p :: q) = false := by
  rw [ba_list]
  cases hd : dig m with
  | nil => exact absurd hd (dig_nonempty m)
  | cons c cs =>
    have := dig_range ⟨m, hm⟩ c (by show c ∈ dig m; rw [hd]; simp)
    have hne : p ≠ c := by rintro rfl; exact hp this
    simp [Lib.hasPrefix, List.isPrefixOf, hne]
theorem size_y (m h d n : Nat) (hm : m < 100) (hh : h < 100) (hd : d < 100) (hn : n < 100) : (ba (joinL (yWords m h d n))).size ≤ 20 := by
  have k : ∀ i : Fin 100, (dig i.val).length ≤ 2 := by decide
  have k1 := k ⟨m, hm⟩; have k2 := k ⟨h, hh⟩; have k3 := k ⟨d, hd⟩; have k4 := k ⟨n, hn⟩
  rw [ba_size]
  simp only [yWords, joinL, joinL.joinTail, List.length_append, List.length_cons, ba_list, List.cons_append, List.length_nil]
  simp only at k1 k2 k3 k4
  omega
theorem stdY_any (m h d n : Nat) (hm : m ≤ 59) (hh : h ≤ 23) (hd1 : 1 ≤ d) (hd : d ≤ 31) (hn1 : 1 ≤ n) (hn : n ≤ 12) (w : World) (hg : G w) :
    Calls Tryz.prog 25 #[.string (ba (dig m) ++ ⟨#[32]⟩ ++ ba (dig h) ++ ⟨#[32]⟩ ++ ba (dig d) ++ ⟨#[32]⟩ ++ ba (dig n) ++ ⟨#[32, 42]⟩)] w fun e w' => e = .returned (.tuple #[.agg (setsCells 0 (yS m h d n)), .bool true]) ∧ Below w.heap.size w w' := by
  rw [yText_eq]
  have hs := size_y m h d n (by omega) (by omega) (by omega) (by omega)
  have ht : joinL (yWords m h d n) = dig m ++ joinL.joinTail [ba (dig h), ba (dig d), ba (dig n), ⟨#[42]⟩] := by
    simp only [yWords, joinL, ba_list]
  have := parseStandard_any (ba (joinL (yWords m h d n))) (by omega)
    (by rw [ht]; exact head_y m (by omega) _ 84 _ (by decide)) (by rw [ht]; exact head_y m (by omega) _ 67 _ (by decide)) (by rw [ht]; exact head_y m (by omega) _ 64 _ (by decide)) w hg
  rw [parse_y m h d n hm hh hd1 hd hn1 hn] at this
  refine this.mono ?_
  rintro e w' ⟨rfl, hb⟩
  exact ⟨rfl, hb⟩

theorem instSizeY : (Tryz.prog.info? 50).map (·.size) = some 2 := by kernel_rfl
theorem run_alloc_Sy (w : World) : (Instr.alloc 26 true (.tuple #[])).run Tryz.prog w = .ok (.pointer (some ⟨w.heap.size, 0, none⟩)) (w.alloc (.cells noSched 26 (0, 0))) := by kernel_rfl
theorem built_inst : Tryz.prog.built 50 [] = some #[.int .i64 0, .int .i64 0] := by kernel_rfl
theorem run_field_civil (r1 r2 r3 r4 r5 r6 r7 r8 : Value) (w : World) : (Instr.field 78 (.agg #[r1, r2, r3, r4, r5, r6, r7, r8]) 0).run Tryz.prog w = .ok r1 w := by kernel_rfl

set_option maxRecDepth 100000 in
set_option maxHeartbeats 4000000 in
/-- an argument out of its range: the law says nothing -/
theorem yearSkip (a0 a1 a2 a3 sec nano : Int) (hx : a0 < 0 ∨ 59 < a0 ∨ a1 < 0 ∨ 23 < a1 ∨ a2 < 1 ∨ 31 < a2 ∨ a3 < 1 ∨ 12 < a3) (w : World) :
    Calls Tryz.prog 6 #[.int .i64 a0, .int .i64 a1, .int .i64 a2, .int .i64 a3, .agg #[.int .i64 sec, .int .i64 nano]] w fun e w' => e = .returned (.bool true) ∧ Below w.heap.size w w' := by
  by_cases c0 : a0 < 0
  · have d0 : decide (a0 < 0) = true := decide_eq_true c0
    go_enter Tryz.func6, Tryz.ntmps6
    go_wp2_with fail
    go_ret
    exact ⟨rfl, (Below.refl _ _).alloc (Nat.le_refl _) _⟩
  have d0 : decide (a0 < 0) = false := decide_eq_false c0
  by_cases c1 : 59 < a0
  · have d1 : decide (59 < a0) = true := decide_eq_true c1
    go_enter Tryz.func6, Tryz.ntmps6
    go_wp2_with fail
    go_ret
    exact ⟨rfl, (Below.refl _ _).alloc (Nat.le_refl _) _⟩
  have d1 : decide (59 < a0) = false := decide_eq_false c1
  by_cases c2 : a1 < 0
  · have d2 : decide (a1 < 0) = true := decide_eq_true c2
    go_enter Tryz.func6, Tryz.ntmps6
    go_wp2_with fail
    go_ret
    exact ⟨rfl, (Below.refl _ _).alloc (Nat.le_refl _) _⟩
  have d2 : decide (a1 < 0) = false := decide_eq_false c2
  by_cases c3 : 23 < a1
  · have d3 : decide (23 < a1) = true := decide_eq_true c3
    go_enter Tryz.func6, Tryz.ntmps6
    go_wp2_with fail
    go_ret
    exact ⟨rfl, (Below.refl _ _).alloc (Nat.le_refl _) _⟩
  have d3 : decide (23 < a1) = false := decide_eq_false c3
  by_cases c4 : a2 < 1
  · have d4 : decide (a2 < 1) = true := decide_eq_true c4
    go_enter Tryz.func6, Tryz.ntmps6
    go_wp2_with fail
    go_ret
    exact ⟨rfl, (Below.refl _ _).alloc (Nat.le_refl _) _⟩
  have d4 : decide (a2 < 1) = false := decide_eq_false c4
  by_cases c5 : 31 < a2
  · have d5 : decide (31 < a2) = true := decide_eq_true c5
    go_enter Tryz.func6, Tryz.ntmps6
    go_wp2_with fail
    go_ret
    exact ⟨rfl, (Below.refl _ _).alloc (Nat.le_refl _) _⟩
  have d5 : decide (31 < a2) = false := decide_eq_false c5
  by_cases c6 : a3 < 1
  · have d6 : decide (a3 < 1) = true := decide_eq_true c6
    go_enter Tryz.func6, Tryz.ntmps6
    go_wp2_with fail
    go_ret
    exact ⟨rfl, (Below.refl _ _).alloc (Nat.le_refl _) _⟩
  have d6 : decide (a3 < 1) = false := decide_eq_false c6
  have c7 : 12 < a3 := by omega
  have d7 : decide (12 < a3) = true := decide_eq_true c7
  go_enter Tryz.func6, Tryz.ntmps6
  go_wp2_with fail
  go_ret
  exact ⟨rfl, (Below.refl _ _).alloc (Nat.le_refl _) _⟩

set_option maxRecDepth 100000 in
set_option maxHeartbeats 8000000 in
theorem yearMain (m h d n : Nat) (hm : m ≤ 59) (hh : h ≤ 23) (hd1 : 1 ≤ d) (hd : d ≤ 31) (hn1 : 1 ≤ n) (hn : n ≤ 12) (sec nano : Int) (w : World) (hg : G w) :
    Calls Tryz.prog 6 #[.int .i64 m, .int .i64 h, .int .i64 d, .int .i64 n, .agg #[.int .i64 sec, .int .i64 nano]] w fun e w' => e = .returned (.bool true) ∧ Below w.heap.size w w' := by
  have HGD := Lib.hid (fun w' => good_any sec nano w')
  have HI1 := Lib.hid (fun w' => itoaS_any m (by omega) w')
  have HI2 := Lib.hid (fun w' => itoaS_any h (by omega) w')
  have HI3 := Lib.hid (fun w' => itoaS_any d (by omega) w')
  have HI4 := Lib.hid (fun w' => itoaS_any n (by omega) w')
  have HPS := Lib.hid (fun w' hg' => stdY_any m h d n hm hh hd1 hd hn1 hn w' hg')
  have HG := Lib.hid (fun w' (h : Below w.heap.size w w') => hg.below h)
  have kd : ∀ i : Fin 100, (dig i.val).length ≤ 2 := by decide
  have hza : (ba (dig m)).size ≤ 2 := by rw [ba_size]; exact kd ⟨m, by omega⟩
  have hzb : (ba (dig h)).size ≤ 2 := by rw [ba_size]; exact kd ⟨h, by omega⟩
  have hzc : (ba (dig d)).size ≤ 2 := by rw [ba_size]; exact kd ⟨d, by omega⟩
  have hzd : (ba (dig n)).size ≤ 2 := by rw [ba_size]; exact kd ⟨n, by omega⟩
  clear hg kd
  have d0 : decide ((m : Int) < 0) = false := decide_eq_false (by omega)
  have d1 : decide (59 < (m : Int)) = false := decide_eq_false (by omega)
  have d2 : decide ((h : Int) < 0) = false := decide_eq_false (by omega)
  have d3 : decide (23 < (h : Int)) = false := decide_eq_false (by omega)
  have d4 : decide ((d : Int) < 1) = false := decide_eq_false (by omega)
  have d5 : decide (31 < (d : Int)) = false := decide_eq_false (by omega)
  have d6 : decide ((n : Int) < 1) = false := decide_eq_false (by omega)
  have d7 : decide (12 < (n : Int)) = false := decide_eq_false (by omega)
  have hal := run_alloc_inst
  have hal2 := run_alloc_Sy
  go_enter Tryz.func6, Tryz.ntmps6
  go_upto_region 1 with fail
  generalize hW : World.alloc w _ = wa
  have HR0 := Lib.hid (show wa.heap[w.heap.size]? = some (.cells #[.int .i64 sec, .int .i64 nano] 50 (0, 0)) by rw [← hW]; exact heap_alloc_new w _)
  have hB : Below w.heap.size w wa := by rw [← hW]; exact (Below.refl _ _).alloc (Nat.le_refl _) _
  clear hW
  go_wp2_with (refine wpList_load_rowG (by rfl) 50 _ rfl w.heap.size rfl _ _ _ _ HR0.out Tryz.underlying50 rfl instSizeY ?_)
  refine (HGD.out _).mono ?_
  rintro e w1 ⟨rfl, hb1⟩
  have HR1 := Lib.hid (row_keep HR0.out hb1)
  have hB1 := below_of_le hB hb1
  clear hb1 HR0 hB HGD
  try dsimp only
  cases hgd : goodB sec nano with
  | false =>
    go_wp2_with fail
    go_ret
    exact ⟨rfl, hB1⟩
  | true =>
    obtain ⟨g1, g2, g3, g4⟩ := goodB_iff.1 hgd
    go_wp2_with fail
    refine (HI1.out _).mono ?_
    rintro e w2 ⟨rfl, rfl⟩
    go_wp2_with fail
    refine (HI2.out _).mono ?_
    rintro e w2 ⟨rfl, rfl⟩
    go_wp2_with fail
    refine (HI3.out _).mono ?_
    rintro e w2 ⟨rfl, rfl⟩
    go_wp2_with fail
    refine (HI4.out _).mono ?_
    rintro e w2 ⟨rfl, rfl⟩
    go_wp2_with fail
    refine (HPS.out _ (HG.out _ hB1)).mono ?_
    rintro e w2 ⟨rfl, hb2⟩
    have HR2 := Lib.hid (row_keep HR1.out hb2)
    have hB2 := below_of_le hB1 hb2
    clear hb2 HR1 hB1 HI1 HI2 HI3 HI4 HPS HG hza hzb hzc hzd d0 d1 d2 d3 d4 d5 d6 d7
    try dsimp only
    have hSok : (yS m h d n).ok := by
      have hp : ∀ k : Nat, k < 64 → 2 ^ k < 2 ^ 64 := fun k hk => Nat.pow_lt_pow_right (by omega) hk
      exact ⟨by show (1 : Nat) < _; omega, hp m (by omega), hp h (by omega), hp d (by omega), hp n (by omega), by show (9223372036854775935 : Nat) < _; omega⟩
    have hle := yearS_first (m := m) (h := h) (d := d) (n := n) hm hh hd1 hn1 hn sec
    obtain ⟨r, hr⟩ : ∃ r, r = yearS m h d n sec 6 (yearL (sec + 1)) := ⟨_, rfl⟩
    rw [← hr] at hle
    have HN := Lib.hid (fun w' => nextUtc_any 0 (yS m h d n) hSok sec nano hgd r hle w')
    have HRR := Lib.hid hr
    have HU := Lib.hid (fun w' => cronUtc_any w')
    unfold utcZone at HU HN
    obtain ⟨S, hS⟩ : ∃ S, S = yS m h d n := ⟨_, rfl⟩
    rw [← hS] at HN
    rw [← hS]
    clear hSok hle hr hS hgd
    go_upto_region 4 with (go_big_may; refine wpList_store_row rfl 26 _ _ rfl w2.heap.size (setsCells 0 S) rfl rfl 26 _ (heap_alloc_new w2 _) schedSize rfl (by simp [setsCells, Value.oneCell']) ?_)
    try dsimp only [Act.put]
    generalize hY : World.setRow _ _ _ = wo
    have HS3 := Lib.hid (show wo.heap[w2.heap.size]? = some (.cells (setsCells 0 S) 26 (0, 0)) by rw [← hY]; exact setRow_heap _ _ _ _ _ _ (heap_alloc_new w2 _))
    have hb3 : Below w2.heap.size w2 wo := by rw [← hY]; exact below_setRow ((Below.refl _ _).alloc (Nat.le_refl _) _) (Nat.le_refl _) _
    clear hY
    have HR3 := Lib.hid (row_keep HR2.out hb3)
    have hB3 := below_of_le hB2 hb3
    have hgs : w.heap.size < w2.heap.size := row_lt HR2.out
    clear hb3 HR2 hB2
    generalize w2.heap.size = gs at *
    have hr0 := HS3.out
    have hr1 := HR3.out
    refine start_ (n := 10) (S := fun w' => w'.heap[gs]? = some (.cells (setsCells 0 S) 26 (0, 0)) ∧ w'.heap[w.heap.size]? = some (.cells #[.int .i64 sec, .int .i64 nano] 50 (0, 0)) ∧ Below wo.heap.size wo w') (ds := [8]) #[false, false, false, false, false, false, false, false, false, false] (by kernel_rfl) rfl rfl ⟨hr0, hr1, (Below.refl _ _).drew⟩ (fun hHeld => ?_)
    refine take_ (i := 0) (N := some 73) (v := ?_) (a' := ?_) #[true, false, false, false, false, false, false, false, false, false] rfl rfl (by kernel_rfl) (fun _ _ _ h => h) (Or.inl ⟨by rfl, ?_⟩) hHeld ?_ ?_
    rotate_left
    · rintro w' ⟨s0, s1, s2⟩
      refine exec_load_row _ _ w' 26 (.tmp 11) ?_ gs ?_ _ _ _ _ s0 Tryz.underlying26 rfl schedSize
      · rfl
      · rfl
    rotate_left
    · simp only [Act.put, List.setIfInBounds_toArray, List.set_cons_zero, List.set_cons_succ, i64_w, i32_w]
      rfl
    refine take_ (i := 1) (N := some 74) (v := ?_) (a' := ?_) #[true, true, false, false, false, false, false, false, false, false] rfl rfl (by kernel_rfl) (fun _ _ _ h => h) (Or.inl ⟨by rfl, ?_⟩) hHeld ?_ ?_
    rotate_left
    · rintro w' ⟨s0, s1, s2⟩
      refine exec_load_row _ _ w' 50 (.tmp 9) ?_ (w.heap.size) ?_ _ _ _ _ s1 Tryz.underlying50 rfl instSizeY
      · rfl
      · rfl
    rotate_left
    · simp only [Act.put, List.setIfInBounds_toArray, List.set_cons_zero, List.set_cons_succ, i64_w, i32_w]
      rfl
    refine join_ (σ := Nat) 2 #[true, true, true, true, true, true, true, true, false, false] (fun s => [(75, .agg #[.slice none 0 0, .slice none 0 0, .slice none 0 0, .slice none 0 0]), (76, .tuple #[.agg (ansI 0 r), .bool r.isSome]), (72, .tuple #[.agg (ansI 0 r), .bool r.isSome]), (77, .agg (ansI 0 r)), (78, .bool r.isSome), (13, .pointer (some ⟨s, 0, none⟩))]) (fun s w' => InstRow w' s ∧ wo.heap.size ≤ s ∧ (w'.heap[gs]? = some (.cells (setsCells 0 S) 26 (0, 0)) ∧ w'.heap[w.heap.size]? = some (.cells #[.int .i64 sec, .int .i64 nano] 50 (0, 0)) ∧ Below wo.heap.size wo w')) ?_ ?_
    rotate_left
    · intro hCont
      refine two_ (i := 2) (j := 7) (Ni := some 75) (Nj := some 13) #[true, true, true, false, false, false, false, false, false, false] #[true, true, false, false, false, false, false, true, false, false] rfl rfl rfl rfl (by kernel_rfl) (by decide) (by decide) (fun K hK => ?_) (fun K hK => ?_)
      · skip
        refine goes_ Tryz.func28 (by kernel_rfl) rfl #[] (by rfl) rfl rfl (by simp only [List.map_toArray, List.map_nil]) ?_
        with_reducible refine (HU.out _).mono ?_
        rintro e w4 ⟨rfl, hb4⟩
        refine ⟨_, rfl, ?_⟩
        refine hK.out _ _ ⟨(hb4.block _ (Array.getElem?_eq_some_iff.1 hHeld.1).1).trans hHeld.1, (hb4.block _ (Array.getElem?_eq_some_iff.1 hHeld.2.1).1).trans hHeld.2.1, below_le hHeld.2.2 hb4⟩ (fun hHeld => ?_)
        clear hK K
        refine norm_ (a' := ?_) ?_ ?_
        rotate_left
        · show Act.put _ (some 75) _ = _
          simp only [Act.put, List.setIfInBounds_toArray, List.set_cons_zero, List.set_cons_succ, i64_w, i32_w]
          rfl
        refine two_ (i := 3) (j := 7) (Ni := some 76) (Nj := some 13) #[true, true, true, true, false, false, false, false, false, false] #[true, true, true, false, false, false, false, true, false, false] rfl rfl rfl rfl (by kernel_rfl) (by decide) (by decide) (fun K hK => ?_) (fun K hK => ?_)
        · skip
          refine goes_ Tryz.func27 (by kernel_rfl) rfl #[.agg (setsCells 0 S), .agg #[.int .i64 sec, .int .i64 nano], .agg #[.slice none 0 0, .slice none 0 0, .slice none 0 0, .slice none 0 0]] (by rfl) rfl rfl (by simp only [List.map_toArray, List.map_cons, List.map_nil]; rfl) ?_
          with_reducible refine (HN.out _).mono ?_
          rintro e w5 ⟨rfl, hb5⟩
          refine ⟨_, rfl, ?_⟩
          refine hK.out _ _ ⟨(hb5.block _ (Array.getElem?_eq_some_iff.1 hHeld.1).1).trans hHeld.1, (hb5.block _ (Array.getElem?_eq_some_iff.1 hHeld.2.1).1).trans hHeld.2.1, below_le hHeld.2.2 hb5⟩ (fun hHeld => ?_)
          clear hK K
          refine norm_ (a' := ?_) ?_ ?_
          rotate_left
          · show Act.put _ (some 76) _ = _
            simp only [Act.put, List.setIfInBounds_toArray, List.set_cons_zero, List.set_cons_succ, i64_w, i32_w]
            rfl
          refine pure_ (i := 4) (N := some 72) (v := ?_) (a' := ?_) #[true, true, true, true, true, false, false, false, false, false] rfl rfl (by kernel_rfl) (fun _ _ _ h => h) (Or.inl ⟨by rfl, ?_⟩) ?_ ?_
          rotate_left
          · intro w'
            go_simp
            with_reducible rfl
          rotate_left
          · simp only [Act.put, List.setIfInBounds_toArray, List.set_cons_zero, List.set_cons_succ, i64_w, i32_w]
            rfl
          refine pure_ (i := 5) (N := some 77) (v := ?_) (a' := ?_) #[true, true, true, true, true, true, false, false, false, false] rfl rfl (by kernel_rfl) (fun _ _ _ h => h) (Or.inl ⟨by rfl, ?_⟩) ?_ ?_
          rotate_left
          · intro w'
            go_simp
            with_reducible rfl
          rotate_left
          · simp only [Act.put, List.setIfInBounds_toArray, List.set_cons_zero, List.set_cons_succ, i64_w, i32_w]
            rfl
          refine pure_ (i := 6) (N := some 78) (v := ?_) (a' := ?_) #[true, true, true, true, true, true, true, false, false, false] rfl rfl (by kernel_rfl) (fun _ _ _ h => h) (Or.inl ⟨by rfl, ?_⟩) ?_ ?_
          rotate_left
          · intro w'
            go_simp
            with_reducible rfl
          rotate_left
          · simp only [Act.put, List.setIfInBounds_toArray, List.set_cons_zero, List.set_cons_succ, i64_w, i32_w]
            rfl
          refine one_ (i := 7) (N := some 13) #[true, true, true, true, true, true, true, true, false, false] rfl rfl (by kernel_rfl) (by decide) (fun K hK => ?_)
          have hge7 := hHeld.2.2.size
          have hs7 := instRow_of hHeld.2.2
          refine value_ (by rfl) rfl (exec_alloc_inst _ _ _ rfl) ?_
          refine hK.out _ _ ⟨(((Below.refl _ _).alloc (Nat.le_refl _) _).block _ (Array.getElem?_eq_some_iff.1 hHeld.1).1).trans hHeld.1, (((Below.refl _ _).alloc (Nat.le_refl _) _).block _ (Array.getElem?_eq_some_iff.1 hHeld.2.1).1).trans hHeld.2.1, hHeld.2.2.alloc hHeld.2.2.size _⟩ (fun hHeld => ?_)
          clear hK K
          refine norm_ (a' := ?_) ?_ ?_
          rotate_left
          · show Act.put _ (some 13) _ = _
            simp only [Act.put, List.setIfInBounds_toArray, List.set_cons_zero, List.set_cons_succ, i64_w, i32_w]
            rfl
          exact norm_ (by simp only [putAll, Act.put, List.setIfInBounds_toArray, List.set_cons_zero, List.set_cons_succ]) (hCont w5.heap.size _ ⟨hs7, hge7, hHeld⟩)
        · skip
          have hge7 := hHeld.2.2.size
          have hs7 := instRow_of hHeld.2.2
          refine value_ (by rfl) rfl (exec_alloc_inst _ _ _ rfl) ?_
          refine hK.out _ _ ⟨(((Below.refl _ _).alloc (Nat.le_refl _) _).block _ (Array.getElem?_eq_some_iff.1 hHeld.1).1).trans hHeld.1, (((Below.refl _ _).alloc (Nat.le_refl _) _).block _ (Array.getElem?_eq_some_iff.1 hHeld.2.1).1).trans hHeld.2.1, hHeld.2.2.alloc hHeld.2.2.size _⟩ (fun hHeld => ?_)
          clear hK K
          refine norm_ (a' := ?_) ?_ ?_
          rotate_left
          · show Act.put _ (some 13) _ = _
            simp only [Act.put, List.setIfInBounds_toArray, List.set_cons_zero, List.set_cons_succ, i64_w, i32_w]
            rfl
          refine one_ (i := 3) (N := some 76) #[true, true, true, true, false, false, false, true, false, false] rfl rfl (by kernel_rfl) (by decide) (fun K hK => ?_)
          refine goes_ Tryz.func27 (by kernel_rfl) rfl #[.agg (setsCells 0 S), .agg #[.int .i64 sec, .int .i64 nano], .agg #[.slice none 0 0, .slice none 0 0, .slice none 0 0, .slice none 0 0]] (by rfl) rfl rfl (by simp only [List.map_toArray, List.map_cons, List.map_nil]; rfl) ?_
          with_reducible refine (HN.out _).mono ?_
          rintro e w5 ⟨rfl, hb5⟩
          refine ⟨_, rfl, ?_⟩
          refine hK.out _ _ ⟨(hb5.block _ (Array.getElem?_eq_some_iff.1 hHeld.1).1).trans hHeld.1, (hb5.block _ (Array.getElem?_eq_some_iff.1 hHeld.2.1).1).trans hHeld.2.1, below_le hHeld.2.2 hb5⟩ (fun hHeld => ?_)
          clear hK K
          refine norm_ (a' := ?_) ?_ ?_
          rotate_left
          · show Act.put _ (some 76) _ = _
            simp only [Act.put, List.setIfInBounds_toArray, List.set_cons_zero, List.set_cons_succ, i64_w, i32_w]
            rfl
          refine pure_ (i := 4) (N := some 72) (v := ?_) (a' := ?_) #[true, true, true, true, true, false, false, true, false, false] rfl rfl (by kernel_rfl) (fun _ _ _ h => h) (Or.inl ⟨by rfl, ?_⟩) ?_ ?_
          rotate_left
          · intro w'
            go_simp
            with_reducible rfl
          rotate_left
          · simp only [Act.put, List.setIfInBounds_toArray, List.set_cons_zero, List.set_cons_succ, i64_w, i32_w]
            rfl
          refine pure_ (i := 5) (N := some 77) (v := ?_) (a' := ?_) #[true, true, true, true, true, true, false, true, false, false] rfl rfl (by kernel_rfl) (fun _ _ _ h => h) (Or.inl ⟨by rfl, ?_⟩) ?_ ?_
          rotate_left
          · intro w'
            go_simp
            with_reducible rfl
          rotate_left
          · simp only [Act.put, List.setIfInBounds_toArray, List.set_cons_zero, List.set_cons_succ, i64_w, i32_w]
            rfl
          refine pure_ (i := 6) (N := some 78) (v := ?_) (a' := ?_) #[true, true, true, true, true, true, true, true, false, false] rfl rfl (by kernel_rfl) (fun _ _ _ h => h) (Or.inl ⟨by rfl, ?_⟩) ?_ ?_
          rotate_left
          · intro w'
            go_simp
            with_reducible rfl
          rotate_left
          · simp only [Act.put, List.setIfInBounds_toArray, List.set_cons_zero, List.set_cons_succ, i64_w, i32_w]
            rfl
          exact norm_ (by simp only [putAll, Act.put, List.setIfInBounds_toArray, List.set_cons_zero, List.set_cons_succ]) (hCont w4.heap.size _ ⟨hs7.below hb5, hge7, hHeld⟩)
      · skip
        have hge7 := hHeld.2.2.size
        have hs7 := instRow_of hHeld.2.2
        refine value_ (by rfl) rfl (exec_alloc_inst _ _ _ rfl) ?_
        refine hK.out _ _ ⟨(((Below.refl _ _).alloc (Nat.le_refl _) _).block _ (Array.getElem?_eq_some_iff.1 hHeld.1).1).trans hHeld.1, (((Below.refl _ _).alloc (Nat.le_refl _) _).block _ (Array.getElem?_eq_some_iff.1 hHeld.2.1).1).trans hHeld.2.1, hHeld.2.2.alloc hHeld.2.2.size _⟩ (fun hHeld => ?_)
        clear hK K
        refine norm_ (a' := ?_) ?_ ?_
        rotate_left
        · show Act.put _ (some 13) _ = _
          simp only [Act.put, List.setIfInBounds_toArray, List.set_cons_zero, List.set_cons_succ, i64_w, i32_w]
          rfl
        refine one_ (i := 2) (N := some 75) #[true, true, true, false, false, false, false, true, false, false] rfl rfl (by kernel_rfl) (by decide) (fun K hK => ?_)
        refine goes_ Tryz.func28 (by kernel_rfl) rfl #[] (by rfl) rfl rfl (by simp only [List.map_toArray, List.map_nil]) ?_
        with_reducible refine (HU.out _).mono ?_
        rintro e w4 ⟨rfl, hb4⟩
        refine ⟨_, rfl, ?_⟩
        refine hK.out _ _ ⟨(hb4.block _ (Array.getElem?_eq_some_iff.1 hHeld.1).1).trans hHeld.1, (hb4.block _ (Array.getElem?_eq_some_iff.1 hHeld.2.1).1).trans hHeld.2.1, below_le hHeld.2.2 hb4⟩ (fun hHeld => ?_)
        clear hK K
        refine norm_ (a' := ?_) ?_ ?_
        rotate_left
        · show Act.put _ (some 75) _ = _
          simp only [Act.put, List.setIfInBounds_toArray, List.set_cons_zero, List.set_cons_succ, i64_w, i32_w]
          rfl
        refine one_ (i := 3) (N := some 76) #[true, true, true, true, false, false, false, true, false, false] rfl rfl (by kernel_rfl) (by decide) (fun K hK => ?_)
        refine goes_ Tryz.func27 (by kernel_rfl) rfl #[.agg (setsCells 0 S), .agg #[.int .i64 sec, .int .i64 nano], .agg #[.slice none 0 0, .slice none 0 0, .slice none 0 0, .slice none 0 0]] (by rfl) rfl rfl (by simp only [List.map_toArray, List.map_cons, List.map_nil]; rfl) ?_
        with_reducible refine (HN.out _).mono ?_
        rintro e w5 ⟨rfl, hb5⟩
        refine ⟨_, rfl, ?_⟩
        refine hK.out _ _ ⟨(hb5.block _ (Array.getElem?_eq_some_iff.1 hHeld.1).1).trans hHeld.1, (hb5.block _ (Array.getElem?_eq_some_iff.1 hHeld.2.1).1).trans hHeld.2.1, below_le hHeld.2.2 hb5⟩ (fun hHeld => ?_)
        clear hK K
        refine norm_ (a' := ?_) ?_ ?_
        rotate_left
        · show Act.put _ (some 76) _ = _
          simp only [Act.put, List.setIfInBounds_toArray, List.set_cons_zero, List.set_cons_succ, i64_w, i32_w]
          rfl
        refine pure_ (i := 4) (N := some 72) (v := ?_) (a' := ?_) #[true, true, true, true, true, false, false, true, false, false] rfl rfl (by kernel_rfl) (fun _ _ _ h => h) (Or.inl ⟨by rfl, ?_⟩) ?_ ?_
        rotate_left
        · intro w'
          go_simp
          with_reducible rfl
        rotate_left
        · simp only [Act.put, List.setIfInBounds_toArray, List.set_cons_zero, List.set_cons_succ, i64_w, i32_w]
          rfl
        refine pure_ (i := 5) (N := some 77) (v := ?_) (a' := ?_) #[true, true, true, true, true, true, false, true, false, false] rfl rfl (by kernel_rfl) (fun _ _ _ h => h) (Or.inl ⟨by rfl, ?_⟩) ?_ ?_
        rotate_left
        · intro w'
          go_simp
          with_reducible rfl
        rotate_left
        · simp only [Act.put, List.setIfInBounds_toArray, List.set_cons_zero, List.set_cons_succ, i64_w, i32_w]
          rfl
        refine pure_ (i := 6) (N := some 78) (v := ?_) (a' := ?_) #[true, true, true, true, true, true, true, true, false, false] rfl rfl (by kernel_rfl) (fun _ _ _ h => h) (Or.inl ⟨by rfl, ?_⟩) ?_ ?_
        rotate_left
        · intro w'
          go_simp
          with_reducible rfl
        rotate_left
        · simp only [Act.put, List.setIfInBounds_toArray, List.set_cons_zero, List.set_cons_succ, i64_w, i32_w]
          rfl
        exact norm_ (by simp only [putAll, Act.put, List.setIfInBounds_toArray, List.set_cons_zero, List.set_cons_succ]) (hCont wo.drew.heap.size _ ⟨(hs7.below hb4).below hb5, hge7, hHeld⟩)
    rintro g7 w5 ⟨hs7, hge7, hHeld⟩
    refine norm_ (a' := ?_) ?_ ?_
    rotate_left
    · simp only [putAll, Act.put, List.setIfInBounds_toArray, List.set_cons_zero, List.set_cons_succ]
      rfl
    refine last_ (i := 8) (N := none) #[true, true, true, true, true, true, true, true, true, false] rfl rfl (by kernel_rfl) (by decide) (fun K hK => ?_)
    rw [if_pos (by rfl)]
    refine wp_store_row 50 _ _ rfl g7 (ansI 0 r) rfl rfl 50 instZ hs7 (by rw [ansI_size]; exact instSizeY) (by rw [ansI_size]; rfl) (ansI_one 0 r) ?_
    go_simp
    refine hK.out _ _ ?_
    clear hK K
    refine pure_ (i := 9) (N := some 14) (v := ?_) (a' := ?_) #[true, true, true, true, true, true, true, true, true, true] rfl rfl (by kernel_rfl) (fun _ _ _ h => h) (Or.inl ⟨by rfl, ?_⟩) ?_ ?_
    rotate_left
    · intro w'
      go_simp
      with_reducible rfl
    rotate_left
    · simp only [Act.put, List.setIfInBounds_toArray, List.set_cons_zero, List.set_cons_succ, i64_w, i32_w]
      rfl
    refine done_ (by kernel_rfl) ?_
    have hlo := row_lt hr0
    have hl1 := row_lt hr1
    generalize hY : World.setRow _ _ _ = w6
    have HA6 := Lib.hid (show w6.heap[g7]? = some (.cells (ansI 0 r) 50 (0, 0)) by rw [← hY]; exact setRow_heap _ _ _ _ _ _ hs7)
    have HT6 := Lib.hid (show w6.heap[w.heap.size]? = some (.cells #[.int .i64 sec, .int .i64 nano] 50 (0, 0)) by rw [← hY]; exact (setRow_other _ _ _ _ (by omega)).trans hHeld.2.1)
    have hB6 : Below w.heap.size w w6 := by rw [← hY]; exact below_setRow (below_of_le hB3 hHeld.2.2) (by omega) _
    clear hY hHeld hs7 hge7 hr0 hr1 HS3 HR3 hB3 hlo hl1 hgs HN
    obtain ⟨ga, rfl⟩ : ∃ ga : Nat, ga = g7 := ⟨_, rfl⟩
    -- the year of the next second
    have HW := Lib.hid (fun w' => whole_any (sec + 1) w')
    have HCV := Lib.hid (fun w' => civilUtc_any (sec + 1) 0 (by omega) (by omega) w')
    have hw1 : wrap64 (sec + 1) = sec + 1 := by unfold wrap64; omega
    have hc0 : w6.cell? ⟨w.heap.size, 0, none⟩ = some (.int .i64 sec) := cell_of_row _ _ _ _ _ _ HT6.out
    go_wp2_with fail
    refine (HW.out _).mono ?_
    rintro e w7 ⟨rfl, hb7⟩
    have HA7 := Lib.hid (row_keep HA6.out hb7)
    have HT7 := Lib.hid (row_keep HT6.out hb7)
    have hB7 := below_of_le hB6 hb7
    clear hb7 HA6 HT6 hB6 hc0 HW
    try dsimp only
    go_wp2_with fail
    refine (HU.out _).mono ?_
    rintro e w8 ⟨rfl, hb8⟩
    have HA8 := Lib.hid (row_keep HA7.out hb8)
    have HT8 := Lib.hid (row_keep HT7.out hb8)
    have hB8 := below_of_le hB7 hb8
    clear hb8 HA7 HT7 hB7 HU
    try dsimp only
    go_wp2_with fail
    refine (HCV.out _).mono ?_
    rintro e w9 ⟨⟨r2, r3, r4, r5, r6, r7, r8, rfl⟩, hb9⟩
    have HA9 := Lib.hid (row_keep HA8.out hb9)
    have HT9 := Lib.hid (row_keep HT8.out hb9)
    have hB9 := below_of_le hB8 hb9
    clear hb9 HA8 HT8 hB8 HCV
    have hfd := fun w' => run_field_civil (.int .i64 (yearL (sec + 1))) (.int .i64 r2) (.int .i64 r3) (.int .i64 r4) (.int .i64 r5) (.int .i64 r6) (.int .i64 r7) (.int .i64 r8) w'
    try dsimp only
    have hy0 := year_one (L := sec + 1) (by omega)
    have hy1 := year_top (L := sec + 1) (by omega)
    generalize hY0 : yearL (sec + 1) = Y0 at *
    go_wp2_with fail
    clear hfd
    go_loopw [16] (fun v16 wr => ∃ k : Nat, k ≤ 6 ∧ v16 = .int .i64 (Y0 + k) ∧ Hid (r = yearS m h d n sec (6 - k) (Y0 + k)) ∧ Hid (wr.heap[ga]? = some (.cells (ansI 0 r) 50 (0, 0))) ∧ Hid (wr.heap[w.heap.size]? = some (.cells #[.int .i64 sec, .int .i64 nano] 50 (0, 0))) ∧ Below w.heap.size w wr) (fun v16 _ => (Y0 + 6 - intOf v16).toNat)
    case atStart => exact ⟨0, by omega, by simp, Lib.hid (by simpa using HRR.out), HA9, HT9, hB9⟩
    case round =>
      clear HA9 HT9 hB9 HRR
      obtain ⟨k, hk, rfl, HRk, HA, HT, hbr⟩ := hrel
      have hw5 : wrap64 (Y0 + 5) = Y0 + 5 := by unfold wrap64; omega
      have hwk : wrap64 (Y0 + k + 1) = Y0 + k + 1 := by unfold wrap64; omega
      by_cases hk6 : k = 6
      · subst hk6
        have hlt : decide (Y0 + ((6 : Nat) : Int) ≤ Y0 + 5) = false := decide_eq_false (by omega)
        have hrn : r = none := by have := HRk.out; simpa [yearS] using this
        subst hrn
        have hbi := built_inst
        have HA' : Hid (wr.heap[ga]? = some (.cells #[.int .i64 0, .int .i64 0] 50 (0, 0))) := Lib.hid HA.out
        go_wp2_with (refine wpList_load_rowG (by rfl) 50 _ rfl ga rfl _ _ _ _ HA'.out Tryz.underlying50 rfl instSizeY ?_)
        go_ret
        exact ⟨rfl, hbr⟩
      · have hlt : decide (Y0 + (k : Int) ≤ Y0 + 5) = true := decide_eq_true (by omega)
        have HIN := Lib.hid (fun w' => instant_any (Y0 + k) n d (3600 * h + 60 * m) (by omega) (by omega) (by omega) (by omega) (by omega) (by omega) (by omega) (by omega) w')
        have HMD := Lib.hid (fun w' => mdays_any (Y0 + k) n (by omega) (by omega) (by omega) (by omega) w')
        have hwa : wrap64 (3600 * (h : Int)) = 3600 * h := by unfold wrap64; omega
        have hwb : wrap64 (60 * (m : Int)) = 60 * m := by unfold wrap64; omega
        have hwc : wrap64 (3600 * (h : Int) + 60 * m) = 3600 * h + 60 * m := by unfold wrap64; omega
        obtain ⟨C, hC⟩ : ∃ C, C = candY m h d n (Y0 + k) := ⟨_, rfl⟩
        have hC' : dayOf (Y0 + k) n d * 86400 + (3600 * h + 60 * m) = C := by rw [hC]; unfold candY; omega
        rw [hC'] at HIN
        have hC1 := Lib.hid hC
        clear hC hC'
        go_wp2_with fail
        refine (HIN.out _).mono ?_
        rintro e w10 ⟨rfl, hb10⟩
        have HA1 := Lib.hid (row_keep HA.out hb10)
        have HT1 := Lib.hid (row_keep HT.out hb10)
        have hB1 := below_of_le hbr hb10
        clear hb10 HA HT hbr HIN
        try dsimp only
        go_upto_region 10 with (go_big_may; refine wpList_store_row rfl 50 _ _ rfl w10.heap.size #[.int .i64 C, .int .i64 0] rfl rfl 50 _ (heap_alloc_new w10 _) instSizeY rfl (by simp [Value.oneCell']) ?_)
        try dsimp only [Act.put]
        generalize hY : World.setRow _ _ _ = w11
        have HC2 := Lib.hid (show w11.heap[w10.heap.size]? = some (.cells #[.int .i64 C, .int .i64 0] 50 (0, 0)) by rw [← hY]; exact setRow_heap _ _ _ _ _ _ (heap_alloc_new w10 _))
        have hb11 : Below w10.heap.size w10 w11 := by rw [← hY]; exact below_setRow ((Below.refl _ _).alloc (Nat.le_refl _) _) (Nat.le_refl _) _
        clear hY
        have HA2 := Lib.hid (row_keep HA1.out hb11)
        have HT2 := Lib.hid (row_keep HT1.out hb11)
        have hB2 := below_of_le hB1 hb11
        clear hb11 HA1 HT1 hB1
        generalize w10.heap.size = gw at *
        go_wp2_with fail
        refine (HMD.out _).mono ?_
        rintro e w12 ⟨rfl, hb12⟩
        have HC3 := Lib.hid (row_keep HC2.out hb12)
        have HA3 := Lib.hid (row_keep HA2.out hb12)
        have HT3 := Lib.hid (row_keep HT2.out hb12)
        have hB3 := below_of_le hB2 hb12
        clear hb12 HA2 HT2 hB2 HC2 HMD
        try dsimp only
        have cc : w12.cell? ⟨gw, 0, none⟩ = some (.int .i64 C) := cell_of_row _ _ _ _ _ _ HC3.out
        have ct : w12.cell? ⟨w.heap.size, 0, none⟩ = some (.int .i64 sec) := cell_of_row _ _ _ _ _ _ HT3.out
        have hstep : r = if (d : Int) ≤ mdays (Y0 + k) n ∧ sec < C then some C else yearS m h d n sec (6 - (k + 1)) (Y0 + ((k + 1 : Nat) : Int)) := by
          have := HRk.out
          rw [show 6 - k = (6 - (k + 1)) + 1 by omega] at this
          rw [this, yearS, ← hC1.out, show Y0 + (k : Int) + 1 = Y0 + ((k + 1 : Nat) : Int) by omega]
        have HST := Lib.hid hstep
        clear hstep HRk hC1
        generalize mdays (Y0 + k) n = M at *
        by_cases hv : (d : Int) ≤ M
        · have dv : decide ((d : Int) ≤ M) = true := decide_eq_true hv
          by_cases hs : sec < C
          · have ds1 : decide (sec < C) = true := decide_eq_true hs
            have hrc : r = some C := by rw [HST.out, if_pos ⟨hv, hs⟩]
            subst hrc
            have HA' : Hid (w12.heap[ga]? = some (.cells #[.int .i64 (C - 0), .int .i64 0] 50 (0, 0))) := Lib.hid HA3.out
            have hc0 : C - 0 = C := Int.sub_zero C
            rw [hc0] at HA'
            go_wp2_with (first
              | (refine wpList_load_rowG (by rfl) 50 _ rfl ga rfl _ _ _ _ HA'.out Tryz.underlying50 rfl instSizeY ?_)
              | (refine wpList_load_rowG (by rfl) 50 _ rfl gw rfl _ _ _ _ HC3.out Tryz.underlying50 rfl instSizeY ?_))
            go_ret
            exact ⟨by simp, hB3⟩
          · have ds1 : decide (sec < C) = false := decide_eq_false hs
            have HRk : Hid (r = yearS m h d n sec (6 - (k + 1)) (Y0 + ((k + 1 : Nat) : Int))) := Lib.hid (by rw [HST.out, if_neg (fun x => hs x.2)])
            go_wp2_with fail
            go_roundw
            case rel => exact ⟨k + 1, by omega, by congr 1; omega, HRk, HA3, HT3, hB3⟩
            case measure => simp [intOf]; omega
        · have dv : decide ((d : Int) ≤ M) = false := decide_eq_false hv
          have HRk : Hid (r = yearS m h d n sec (6 - (k + 1)) (Y0 + ((k + 1 : Nat) : Int))) := Lib.hid (by rw [HST.out, if_neg (fun x => hv x.1)])
          go_wp2_with fail
          go_roundw
          case rel => exact ⟨k + 1, by omega, by congr 1; omega, HRk, HA3, HT3, hB3⟩
          case measure => simp [intOf]; omega

theorem lawYear_any (a0 a1 a2 a3 sec nano : Int) (w : World) (hg : G w) :
    Calls Tryz.prog 6 #[.int .i64 a0, .int .i64 a1, .int .i64 a2, .int .i64 a3, .agg #[.int .i64 sec, .int .i64 nano]] w fun e w' => e = .returned (.bool true) ∧ Below w.heap.size w w' := by
  by_cases hx : a0 < 0 ∨ 59 < a0 ∨ a1 < 0 ∨ 23 < a1 ∨ a2 < 1 ∨ 31 < a2 ∨ a3 < 1 ∨ 12 < a3
  · exact yearSkip a0 a1 a2 a3 sec nano hx w
  · obtain ⟨m, rfl⟩ : ∃ m : Nat, a0 = m := ⟨a0.toNat, by omega⟩
    obtain ⟨h, rfl⟩ : ∃ m : Nat, a1 = m := ⟨a1.toNat, by omega⟩
    obtain ⟨d, rfl⟩ : ∃ m : Nat, a2 = m := ⟨a2.toNat, by omega⟩
    obtain ⟨n, rfl⟩ : ∃ m : Nat, a3 = m := ⟨a3.toNat, by omega⟩
    exact yearMain m h d n (by omega) (by omega) (by omega) (by omega) (by omega) (by omega) sec nano w hg
end Go.Proofs.YtmecbmgfacpecaaGreatDoor.Cron

namespace Go.Proofs.YtmecbmgfacpecaaGreatDoor.Cron
open Go Go.RowKit Go.Proofs.YtmecbmgfacpecaaGreatDoor.Cal
set_option linter.unusedVariables false

theorem year_walk (a0 a1 a2 a3 sec nano : Int) (w0 : (Lit.int .i64 a0).wf = true) (w1 : (Lit.int .i64 a1).wf = true) (w2 : (Lit.int .i64 a2).wf = true) (w3 : (Lit.int .i64 a3).wf = true) (W : World) (hL : laidMetH Tryz.prog Rows.fnCronYearlyAtRow.laid W) :
    Calls Tryz.prog 6 #[.int .i64 a0, .int .i64 a1, .int .i64 a2, .int .i64 a3, .agg #[.int .i64 sec, .int .i64 nano]] W fun e w' => e = .returned (.bool true) ∧ Below W.heap.size W w' := by
  rw [MakeChecks.laidMetH_plain _ _ _ (by kernel_rfl)] at hL
  exact lawYear_any a0 a1 a2 a3 sec nano W (g_of_met hL (by first | exact List.mem_of_getElem? (i := 0) rfl | exact List.mem_of_getElem? (i := 1) rfl | exact List.mem_of_getElem? (i := 2) rfl | exact List.mem_of_getElem? (i := 3) rfl | exact List.mem_of_getElem? (i := 4) rfl | exact List.mem_of_getElem? (i := 5) rfl | exact List.mem_of_getElem? (i := 6) rfl | exact List.mem_of_getElem? (i := 7) rfl | exact List.mem_of_getElem? (i := 8) rfl | exact List.mem_of_getElem? (i := 9) rfl) (by first | exact List.mem_of_getElem? (i := 0) rfl | exact List.mem_of_getElem? (i := 1) rfl | exact List.mem_of_getElem? (i := 2) rfl | exact List.mem_of_getElem? (i := 3) rfl | exact List.mem_of_getElem? (i := 4) rfl | exact List.mem_of_getElem? (i := 5) rfl | exact List.mem_of_getElem? (i := 6) rfl | exact List.mem_of_getElem? (i := 7) rfl | exact List.mem_of_getElem? (i := 8) rfl | exact List.mem_of_getElem? (i := 9) rfl))

end Go.Proofs.YtmecbmgfacpecaaGreatDoor.Cron
