/- Lemmas and walks on the way to the law, merged by wip/tools/pack.py: YearC, YearS, Split, SplitCalls, Bits, Range. Conditions: none. -/
import Derived.Test.YtmecbmgfacpecaaGreatDoorGrD
import Derived.Test.YtmecbmgfacpecaaGreatDoorPrA
import Derived.Test.YtmecbmgfacpecaaGreatDoorGrA
import Derived.Test.YtmecbmgfacpecaaGreatDoorPrSplitT
import Derived.Test.YtmecbmgfacpecaaGreatDoorGrE
import Derived.Laws.BitsLemmas
import Derived.WalkKit
namespace Go.Proofs.YtmecbmgfacpecaaGreatDoor.CronN
open Go Go.RowKit Go.Proofs.YtmecbmgfacpecaaGreatDoorW.PrintWords Go.Proofs.YtmecbmgfacpecaaGreatDoorW.PrintLast Go.Proofs.YtmecbmgfacpecaaGreatDoor.Cal Go.Proofs.YtmecbmgfacpecaaGreatDoor.Pr
set_option linter.unusedVariables false
set_option linter.unusedSimpArgs false

theorem day_l0 (y d m : Int) (y0 : 0 ≤ y) (y1 : y ≤ 100000) (m2 : m ≤ 12) (d0 : 0 ≤ d) (d1 : d ≤ 1000) : ∀ (n k : Nat) (x4 : Int), (m - x4).toNat = n → 1 ≤ x4 → x4 ≤ m → n < k →
    spec_CronDay.l0 k (ystart y + cum y x4) x4 y m d = some (dayOf y m d) := by
  intro n
  induction n with
  | zero =>
    intro k x4 hn hx hm hk
    obtain ⟨k, rfl⟩ : ∃ j, k = j + 1 := ⟨k - 1, by omega⟩
    obtain rfl : x4 = m := by omega
    have hcn := cum_nonneg (y := y) hx (by omega)
    have hcl := cum_lt (y := y) (m := x4) (m' := 13) hx (by omega) (by omega)
    have hb := mdays_bd y x4
    have hl := lp_01 y
    rw [cum_last] at hcl
    have hys : -1000000 ≤ ystart y ∧ ystart y ≤ 40000000 := by unfold ystart; omega
    unfold spec_CronDay.l0 dayOf
    rw [if_neg (by omega), w64 (x := ystart y + cum y x4 + d) (by omega) (by omega), w64 (by omega) (by omega)]
  | succ n ih =>
    intro k x4 hn hx hm hk
    obtain ⟨k, rfl⟩ : ∃ j, k = j + 1 := ⟨k - 1, by omega⟩
    have hlt : x4 < m := by omega
    have hb := mdays_bd y x4
    have hs := cum_succ y x4 hx (by omega)
    have hcn := cum_nonneg (y := y) hx (by omega)
    have hcl := cum_lt (y := y) (m := x4) (m' := 13) hx (by omega) (by omega)
    have hl := lp_01 y
    rw [cum_last] at hcl
    have hys : -1000000 ≤ ystart y ∧ ystart y ≤ 40000000 := by unfold ystart; omega
    unfold spec_CronDay.l0
    rw [if_pos hlt, monthDays_f y x4 y0 (by omega) hx (by omega)]
    simp only [Option.bind_some]
    rw [w64 (x := x4 + 1) (by omega) (by omega), w64 (x := ystart y + cum y x4 + mdays y x4) (by omega) (by omega), show ystart y + cum y x4 + mdays y x4 = ystart y + cum y (x4 + 1) by omega]
    exact ih k (x4 + 1) (by omega) (by omega) (by omega) (by omega)

theorem day_f (y m d : Int) (y0 : 0 ≤ y) (y1 : y ≤ 100000) (m1 : 1 ≤ m) (m2 : m ≤ 12) (d0 : 0 ≤ d) (d1 : d ≤ 1000) : spec_CronDay.f 20 y m d = some (dayOf y m d) := by
  unfold spec_CronDay.f
  rw [yearStart_f y (by omega) (by omega)]
  simp only [Option.bind_some]
  have := day_l0 y d m y0 y1 m2 d0 d1 (m - 1).toNat 20 1 rfl (by omega) m1 (by omega)
  rw [cum_one, Int.add_zero] at this
  exact this

theorem dayOf_bd (y m d : Int) (y0 : 0 ≤ y) (y1 : y ≤ 100000) (m1 : 1 ≤ m) (m2 : m ≤ 12) (d0 : 0 ≤ d) (d1 : d ≤ 1000) : -1000000 ≤ dayOf y m d ∧ dayOf y m d ≤ 41000000 := by
  have hcn := cum_nonneg (y := y) m1 (by omega)
  have hcl := cum_lt (y := y) (m := m) (m' := 13) m1 (by omega) (by omega)
  have hb := mdays_bd y m
  have hl := lp_01 y
  rw [cum_last] at hcl
  have hys : -900000 ≤ ystart y ∧ ystart y ≤ 40000000 := by unfold ystart; omega
  unfold dayOf
  omega

theorem instant_any (y m d s : Int) (y0 : 0 ≤ y) (y1 : y ≤ 100000) (m1 : 1 ≤ m) (m2 : m ≤ 12) (d0 : 0 ≤ d) (d1 : d ≤ 1000) (s0 : 0 ≤ s) (s1 : s ≤ 1000000) (w : World) :
    Calls Tryz.prog 34 #[.agg #[.int .i64 y, .int .i64 m, .int .i64 d], .int .i64 s] w fun e w' => e = .returned (.agg #[.int .i64 (dayOf y m d * 86400 + s), .int .i64 0]) ∧ Below w.heap.size w w' := by
  refine spec_CronInstant.calls 20 y m d s _ _ w ?_
  have hb := dayOf_bd y m d y0 y1 m1 m2 d0 d1
  unfold spec_CronInstant.f
  rw [day_f y m d y0 y1 m1 m2 d0 d1]
  simp only [Option.bind_some]
  rw [w64 (x := 86400 * dayOf y m d) (by omega) (by omega), w64 (by omega) (by omega), Int.mul_comm 86400]

theorem whole_any (sec : Int) (w : World) : Calls Tryz.prog 33 #[.int .i64 sec] w fun e w' => e = .returned (.agg #[.int .i64 sec, .int .i64 0]) ∧ Below w.heap.size w w' :=
  laws_cronWhole.calls sec sec 0 w rfl

theorem mdays_any (y m : Int) (y0 : 0 ≤ y) (y1 : y ≤ 1000000) (m1 : 1 ≤ m) (m2 : m ≤ 12) (w : World) : Calls Tryz.prog 35 #[.int .i64 y, .int .i64 m] w fun e w' => e = .returned (.int .i64 (mdays y m)) ∧ Below w.heap.size w w' :=
  (spec_CronMonthDays.calls y m _ w (monthDays_f y m y0 y1 m1 m2)).mono fun _ _ h => ⟨h.1, drawn_below h.2⟩

/-- the year on UTC's clocks -/
def CivilAns (w : World) (L : Int) (e : Ending) (w' : World) : Prop := (∃ r2 r3 r4 r5 r6 r7 r8 : Int, e = .returned (.agg #[.int .i64 (yearL L), .int .i64 r2, .int .i64 r3, .int .i64 r4, .int .i64 r5, .int .i64 r6, .int .i64 r7, .int .i64 r8])) ∧ Below w.heap.size w w'

theorem civilUtc_any (sec nano : Int) (h0 : -62135596800 ≤ sec) (h1 : sec ≤ 320000000000) (w : World) :
    Calls Tryz.prog 32 #[.agg #[.int .i64 sec, .int .i64 nano], .agg #[.slice none 0 0, .slice none 0 0, .slice none 0 0, .slice none 0 0]] w (CivilAns w sec) := by
  have hoff : spec_CronOffset.f 200 [] [] [] [] sec = some 0 := rfl
  have hclk : ∃ r2 r3 r4 r5 r6 r7 r8, spec_CronClock.f 200 (wrap64 (sec + 0)) nano = some (yearL sec, r2, r3, r4, r5, r6, r7, r8) := by
    rw [Int.add_zero, w64 (by omega) (by omega)]
    unfold spec_CronClock.f
    rw [floorDiv_f sec 86400 (by omega) (by omega)]
    simp only [Option.bind_some]
    rw [dateOf_f sec (by omega) (by omega)]
    simp only [Option.bind_some]
    rw [weekday_f (sec / 86400) (by omega) (by omega)]
    exact ⟨_, _, _, _, _, _, _, rfl⟩
  obtain ⟨r2, r3, r4, r5, r6, r7, r8, hc⟩ := hclk
  have hf : spec_CronCivil.f 200 sec nano [] [] [] [] = some (yearL sec, r2, r3, r4, r5, r6, r7, r8) := by
    unfold spec_CronCivil.f
    rw [hoff]
    simp only [Option.bind_some]
    rw [hc]
    rfl
  refine (spec_CronCivil.calls 200 sec nano none 0 [] none 0 [] none 0 [] none 0 [] _ _ _ _ _ _ _ _ w (Kd.C_nil _ _) (Nat.le_refl _) (Kd.C_nil _ _) (Nat.le_refl _) (Kd.C_nil _ _) (Nat.le_refl _) (Kd.C_nil _ _) (Nat.le_refl _) hf).mono ?_
  rintro e w' ⟨rfl, hb⟩
  exact ⟨⟨_, _, _, _, _, _, _, rfl⟩, hb⟩
end Go.Proofs.YtmecbmgfacpecaaGreatDoor.CronN

namespace Go.Proofs.YtmecbmgfacpecaaGreatDoor.Cal
open Go
set_option linter.unusedVariables false

/-- the sets of one time on one day of the year -/
def yS (m h d n : Nat) : Sets := { sec := 1, min := 2 ^ m, hour := 2 ^ h, dom := 2 ^ d, month := 2 ^ n, dow := 9223372036854775935 }

theorem inB_pow (a : Nat) (k : Int) (hk : 0 ≤ k) : inB (2 ^ a) k = decide (k = a) := by
  unfold inB
  rw [Nat.testBit_two_pow]
  exact decide_eq_decide.2 ⟨fun h => by omega, fun h => by omega⟩
theorem dow_all : ∀ k : Fin 7, inB 9223372036854775935 (k.val : Int) = true := by decide +kernel
theorem dow_star : inB 9223372036854775935 63 = true := by decide +kernel

def candY (m h d n : Nat) (y : Int) : Int := dayOf y n d * 86400 + 3600 * h + 60 * m

theorem fits_y (m h d n : Nat) (x : Int) : Fits (yS m h d n) x ↔ hourL x = h ∧ minL x = m ∧ secL x = 0 ∧ monthL x = n ∧ mdayL x = d := by
  have hv := (date_L x).1
  have e1 : monthB (yS m h d n) x = decide (monthL x = n) := inB_pow n _ (by have := hv.m1; omega)
  have e2 : hourB (yS m h d n) x = decide (hourL x = h) := inB_pow h _ (by unfold hourL; omega)
  have e3 : minB (yS m h d n) x = decide (minL x = m) := inB_pow m _ (by unfold minL; omega)
  have e4 : secB (yS m h d n) x = decide (secL x = 0) := inB_pow 0 _ (by unfold secL; omega)
  have e5 : dayB (yS m h d n) x = decide (mdayL x = d) := by
    have hw : inB (yS m h d n).dow (wdL x) = true := by
      have := dow_all ⟨(wdL x).toNat, by unfold wdL; omega⟩
      rw [show (((wdL x).toNat : Nat) : Int) = wdL x by unfold wdL; omega] at this
      exact this
    have hs : inB (yS m h d n).dow 63 = true := dow_star
    unfold dayB
    rw [hw, hs, Bool.or_true, if_pos rfl, Bool.and_true]
    exact inB_pow d _ (by have := hv.d1; omega)
  constructor
  · rintro ⟨h1, h2, h3, h4, h5⟩
    rw [e1] at h1; rw [e5] at h2; rw [e2] at h3; rw [e3] at h4; rw [e4] at h5
    exact ⟨of_decide_eq_true h3, of_decide_eq_true h4, of_decide_eq_true h5, of_decide_eq_true h1, of_decide_eq_true h2⟩
  · rintro ⟨h3, h4, h5, h1, h2⟩
    exact ⟨e1.trans (decide_eq_true h1), e5.trans (decide_eq_true h2), e2.trans (decide_eq_true h3), e3.trans (decide_eq_true h4), e4.trans (decide_eq_true h5)⟩

theorem fits_cand {m h d n : Nat} {x : Int} (hx : Fits (yS m h d n) x) : (d : Int) ≤ mdays (yearL x) n ∧ x = candY m h d n (yearL x) := by
  obtain ⟨h1, h2, h3, h4, h5⟩ := (fits_y m h d n x).1 hx
  obtain ⟨hv, he⟩ := date_L x
  refine ⟨by rw [← h4, ← h5]; exact hv.d2, ?_⟩
  unfold candY
  rw [← h4, ← h5, he, ← h1, ← h2]
  unfold secL at h3
  unfold dayL hourL minL
  omega

theorem cand_fits {m h d n : Nat} (hm : m ≤ 59) (hh : h ≤ 23) (hd : 1 ≤ d) (hn : 1 ≤ n) (hn2 : n ≤ 12) {y : Int} (hv : (d : Int) ≤ mdays y n) : Fits (yS m h d n) (candY m h d n y) ∧ yearL (candY m h d n y) = y := by
  have hD : dayOf y n d = dayL (candY m h d n y) := by
    unfold candY dayL
    omega
  obtain ⟨e1, e2, e3⟩ := date_eq (L := candY m h d n y) ⟨by omega, by omega, by omega, hv⟩ hD
  refine ⟨(fits_y m h d n _).2 ⟨?_, ?_, ?_, e2, e3⟩, e1⟩
  · unfold hourL candY; omega
  · unfold minL candY; omega
  · unfold secL candY; omega

/-- the first year from y on, of k years, that has the day, with the time after sec -/
def yearS (m h d n : Nat) (sec : Int) : Nat → Int → Option Int
  | 0, _ => none
  | k + 1, y => if (d : Int) ≤ mdays y n ∧ sec < candY m h d n y then some (candY m h d n y) else yearS m h d n sec k (y + 1)

theorem yearS_least {m h d n : Nat} (hm : m ≤ 59) (hh : h ≤ 23) (hd : 1 ≤ d) (hn : 1 ≤ n) (hn2 : n ≤ 12) (sec lim : Int) : ∀ (k : Nat) (y : Int), y + k = lim + 1 →
    (∀ x, sec + 1 ≤ x → yearL x < y → ¬ Fits (yS m h d n) x) → Least (yS m h d n) (sec + 1) lim (yearS m h d n sec k y)
  | 0, y, hk, hno => fun x h1 h2 => hno x h1 (by omega)
  | k + 1, y, hk, hno => by
    unfold yearS
    split
    · rename_i hc
      obtain ⟨hf, hy⟩ := cand_fits hm hh hd hn hn2 hc.1
      refine ⟨by have := hc.2; omega, hf, fun x h1 h2 hx => ?_, by omega⟩
      have hmo := year_mono (a := x) (b := candY m h d n y) (by omega)
      by_cases hlt : yearL x < y
      · exact hno x h1 hlt hx
      · have he := (fits_cand hx).2
        rw [show yearL x = y by omega] at he
        omega
    · rename_i hc
      refine yearS_least hm hh hd hn hn2 sec lim k (y + 1) (by omega) fun x h1 h2 hx => ?_
      by_cases hlt : yearL x < y
      · exact hno x h1 hlt hx
      · obtain ⟨c1, c2⟩ := fits_cand hx
        rw [show yearL x = y by omega] at c1 c2
        exact hc ⟨c1, by omega⟩

theorem yearS_first {m h d n : Nat} (hm : m ≤ 59) (hh : h ≤ 23) (hd : 1 ≤ d) (hn : 1 ≤ n) (hn2 : n ≤ 12) (sec : Int) :
    Least (yS m h d n) (sec + 1) (yearL (sec + 1) + 5) (yearS m h d n sec 6 (yearL (sec + 1))) :=
  yearS_least hm hh hd hn hn2 sec _ 6 _ (by omega) fun x h1 h2 => absurd (year_mono (a := sec + 1) (b := x) h1) (by omega)
end Go.Proofs.YtmecbmgfacpecaaGreatDoor.Cal

namespace Go.Proofs.YtmecbmgfacpecaaGreatDoor.Text
open Go Go.RowKit Go.Proofs.YtmecbmgfacpecaaGreatDoorW.PrintWords Go.Proofs.YtmecbmgfacpecaaGreatDoor.Pr
set_option linter.unusedVariables false

def ba (l : List UInt8) : ByteArray := ⟨l.toArray⟩
theorem ba_size (l : List UInt8) : (ba l).size = l.length := by unfold ba ByteArray.size; exact List.size_toArray
theorem ba_list (l : List UInt8) : (ba l).data.toList = l := by simp [ba]
theorem ba_of (s : ByteArray) : ba s.data.toList = s := by simp [ba]
theorem size_list (s : ByteArray) : s.size = s.data.toList.length := (Array.length_toList (xs := s.data)).symm

theorem toList_data (s : ByteArray) : s.toList = s.data.toList := by
  have key : ∀ (n i : Nat) (r : List UInt8), s.size - i = n → ByteArray.toList.loop s i r = r.reverse ++ s.data.toList.drop i := by
    intro n
    induction n with
    | zero =>
      intro i r h
      unfold ByteArray.toList.loop
      rw [if_neg (by omega), List.drop_eq_nil_of_le (by rw [← size_list]; omega), List.append_nil]
    | succ n ih =>
      intro i r h
      have hi : i < s.size := by omega
      unfold ByteArray.toList.loop
      rw [if_pos hi, ih (i + 1) _ (by omega)]
      have hi' : i < s.data.toList.length := by rw [← size_list]; exact hi
      rw [List.drop_eq_getElem_cons hi', List.reverse_cons, List.append_assoc, List.singleton_append]
      have : s.get! i = s.data.toList[i] := by
        show s.data[i]! = _
        rw [getElem!_pos s.data i (by simpa using hi')]
        simp
      rw [this]
  have := key s.size 0 [] (by omega)
  simpa [ByteArray.toList] using this

theorem extract_list (s : ByteArray) (a b : Nat) : (s.extract a b).data.toList = (s.data.toList.take b).drop a := by
  rw [ByteArray.data_extract, Array.toList_extract, List.extract_eq_take_drop, List.drop_take]

theorem extract_ba (s : ByteArray) (a b : Nat) : s.extract a b = ba ((s.data.toList.take b).drop a) := by
  rw [← extract_list, ba_of]

/-- the pieces of a text between the bytes c -/
def splitL (c : UInt8) : List UInt8 → List (List UInt8)
  | [] => [[]]
  | x :: r => if x = c then [] :: splitL c r else match splitL c r with
    | h :: t => (x :: h) :: t
    | [] => [[x]]

def consHead (p : List UInt8) : List (List UInt8) → List (List UInt8)
  | h :: t => (p ++ h) :: t
  | [] => [p]

theorem splitL_ne (c : UInt8) (l : List UInt8) : splitL c l ≠ [] := by
  cases l with
  | nil => simp [splitL]
  | cons x r =>
    unfold splitL
    split
    · simp
    · split <;> simp

theorem splitL_cons_ne {c x : UInt8} (r : List UInt8) (h : x ≠ c) : splitL c (x :: r) = consHead [x] (splitL c r) := by
  rw [splitL, if_neg h]
  cases e : splitL c r <;> rfl

theorem splitL_cons_eq (c : UInt8) (r : List UInt8) : splitL c (c :: r) = [] :: splitL c r := by rw [splitL, if_pos rfl]

theorem consHead_nil {ls : List (List UInt8)} (h : ls ≠ []) : consHead [] ls = ls := by
  cases ls with
  | nil => exact absurd rfl h
  | cons a t => rfl

theorem splitL_none {c : UInt8} : ∀ {l : List UInt8}, c ∉ l → splitL c l = [l]
  | [], _ => rfl
  | x :: r, h => by
    have h1 : x ≠ c := fun e => h (by simp [e])
    have h2 : c ∉ r := fun e => h (by simp [e])
    rw [splitL_cons_ne r h1, splitL_none h2]
    rfl

theorem splitL_at {c : UInt8} : ∀ {p : List UInt8} (q : List UInt8), c ∉ p → splitL c (p ++ c :: q) = p :: splitL c q
  | [], q, _ => splitL_cons_eq c q
  | x :: r, q, h => by
    have h1 : x ≠ c := fun e => h (by simp [e])
    have h2 : c ∉ r := fun e => h (by simp [e])
    rw [List.cons_append, splitL_cons_ne _ h1, splitL_at q h2]
    rfl

theorem splitL_len (c : UInt8) : ∀ l : List UInt8, (splitL c l).length ≤ l.length + 1
  | [] => by simp [splitL]
  | x :: r => by
    have := splitL_len c r
    by_cases h : x = c
    · subst h; rw [splitL_cons_eq]; simp; omega
    · rw [splitL_cons_ne r h]
      cases e : splitL c r with
      | nil => simp [consHead]
      | cons a t => simp [consHead]; rw [e] at this; simp at this; omega

theorem splitL_size (c : UInt8) : ∀ (l : List UInt8), ∀ p ∈ splitL c l, p.length ≤ l.length
  | [] => by simp [splitL]
  | x :: r => by
    have ih := splitL_size c r
    by_cases h : x = c
    · subst h
      rw [splitL_cons_eq]
      intro p hp
      rcases List.mem_cons.1 hp with rfl | hp
      · simp
      · have := ih p hp; simp; omega
    · rw [splitL_cons_ne r h]
      intro p hp
      cases e : splitL c r with
      | nil => exact absurd e (splitL_ne c r)
      | cons a t =>
        rw [e] at hp ih
        rcases List.mem_cons.1 hp with rfl | hp
        · have := ih a (by simp); simp; omega
        · have := ih p (by simp [hp]); simp; omega

def splitB (c : UInt8) (s : ByteArray) : List ByteArray := (splitL c s.data.toList).map ba

theorem splitB_ne (c : UInt8) (s : ByteArray) : splitB c s ≠ [] := by
  unfold splitB
  intro h
  exact splitL_ne c _ (List.map_eq_nil_iff.1 h)

theorem wrap_in {n : Int} (h : 0 ≤ n) (h2 : n ≤ 281474976710657) : wrap64 n = n := by unfold wrap64; omega

/-! ### the reference's cronPieces -/
/-! ### zzIndex and zzSplit -/
theorem index_l0 (c : UInt8) (s : ByteArray) (hs : s.size ≤ 281474976710655) : ∀ (d k i : Nat), i ≤ s.size → s.size - i = d → d < k →
    (cron_zzIndex.l0 k s (ba [c]) i = some (-1) ∧ c ∉ s.data.toList.drop i) ∨
    ∃ j : Nat, cron_zzIndex.l0 k s (ba [c]) i = some (j : Int) ∧ i ≤ j ∧ j < s.size ∧ ∃ p q, s.data.toList.drop i = p ++ c :: q ∧ c ∉ p ∧ p.length = j - i := by
  intro d
  induction d with
  | zero =>
    intro k i hi hd hk
    obtain ⟨k, rfl⟩ : ∃ m, k = m + 1 := ⟨k - 1, by omega⟩
    left
    simp only [cron_zzIndex.l0, ba_size, List.length_singleton]
    rw [wrap_in (by omega) (by omega), if_neg (by omega)]
    refine ⟨rfl, ?_⟩
    rw [List.drop_eq_nil_of_le (by rw [← size_list]; omega)]
    simp
  | succ d ih =>
    intro k i hi hd hk
    obtain ⟨k, rfl⟩ : ∃ m, k = m + 1 := ⟨k - 1, by omega⟩
    have hlt : i < s.data.toList.length := by rw [← size_list]; omega
    simp only [cron_zzIndex.l0, ba_size, List.length_singleton]
    have hw : wrap64 ((i : Int) + ((1 : Nat) : Int)) = ((i + 1 : Nat) : Int) := by rw [wrap_in (by omega) (by omega)]; omega
    have hw' : wrap64 ((i : Int) + 1) = ((i + 1 : Nat) : Int) := by rw [wrap_in (by omega) (by omega)]; omega
    rw [hw, if_pos (by omega), if_pos (by omega), if_pos (by omega), hw', Int.toNat_natCast, Int.toNat_natCast, toList_data, toList_data, extract_list, ba_list]
    have hx : (s.data.toList.take (i + 1)).drop i = [s.data.toList[i]] := by
      rw [List.take_succ_eq_append_getElem hlt, List.drop_append_of_le_length (by simp; omega), List.drop_eq_nil_of_le (by simp; omega)]
      rfl
    rw [hx, List.drop_eq_getElem_cons hlt]
    by_cases h : s.data.toList[i] = c
    · right
      rw [if_pos (by rw [h])]
      exact ⟨i, rfl, by omega, by omega, [], _, by rw [h]; rfl, by simp, by simp⟩
    · rw [if_neg (by intro e; exact h (by simpa using e))]
      rcases ih k (i + 1) (by omega) (by omega) (by omega) with ⟨h1, h2⟩ | ⟨j, h1, h2, h3, p, q, h4, h5, h6⟩
      · left
        refine ⟨h1, ?_⟩
        intro hm
        rcases List.mem_cons.1 hm with e | hm
        · exact h e.symm
        · exact h2 hm
      · right
        refine ⟨j, h1, by omega, h3, s.data.toList[i] :: p, q, by rw [h4]; rfl, ?_, by simp; omega⟩
        intro hm
        rcases List.mem_cons.1 hm with e | hm
        · exact h e.symm
        · exact h5 hm

theorem split_l0 (c : UInt8) : ∀ (n : Nat) (s : ByteArray) (k : Nat) (acc : List ByteArray), s.size ≤ n → s.size ≤ 281474976710655 → n + 2 < k → acc.length + s.size + 1 < 8796093022208 →
    cron_zzSplit.l0 k s (ba [c]) acc = some (acc ++ splitB c s) := by
  intro n
  induction n with
  | zero =>
    intro s k acc hn hs hk hl
    obtain ⟨k, rfl⟩ : ∃ m, k = m + 1 := ⟨k - 1, by omega⟩
    simp only [cron_zzSplit.l0]
    rcases index_l0 c s hs s.size k 0 (by omega) (by omega) (by omega) with ⟨h1, h2⟩ | ⟨j, h1, h2, h3, _⟩
    · unfold cron_zzIndex.f
      rw [show ((0 : Nat) : Int) = 0 from rfl] at h1
      rw [h1]
      simp only [Option.bind_some]
      rw [if_pos (by omega), if_pos (by omega)]
      rw [List.drop_zero] at h2
      rw [splitB, splitL_none h2]
      simp [ba_of]
    · omega
  | succ n ih =>
    intro s k acc hn hs hk hl
    obtain ⟨k, rfl⟩ : ∃ m, k = m + 1 := ⟨k - 1, by omega⟩
    simp only [cron_zzSplit.l0]
    rcases index_l0 c s hs s.size k 0 (by omega) (by omega) (by omega) with ⟨h1, h2⟩ | ⟨j, h1, h2, h3, p, q, h4, h5, h6⟩
    · unfold cron_zzIndex.f
      rw [show ((0 : Nat) : Int) = 0 from rfl] at h1
      rw [h1]
      simp only [Option.bind_some]
      rw [if_pos (by omega), if_pos (by omega)]
      rw [List.drop_zero] at h2
      rw [splitB, splitL_none h2]
      simp [ba_of]
    · unfold cron_zzIndex.f
      rw [show ((0 : Nat) : Int) = 0 from rfl] at h1
      rw [h1]
      simp only [Option.bind_some, ba_size, List.length_singleton]
      have hw : wrap64 ((j : Int) + ((1 : Nat) : Int)) = ((j + 1 : Nat) : Int) := by rw [wrap_in (by omega) (by omega)]; omega
      rw [if_neg (by omega), if_pos (by omega), if_pos (by omega), if_pos (by omega), hw, if_pos (by omega), if_pos (by omega), Int.toNat_natCast, Int.toNat_natCast]
      rw [List.drop_zero] at h4
      have hsz : (s.extract (j + 1) s.size).size = s.size - (j + 1) := by simp
      rw [ih _ k _ (by omega) (by omega) (by omega) (by simp; omega)]
      have e1 : s.extract 0 j = ba p := by
        rw [extract_ba, h4]
        congr 1
        simp
        rw [List.take_append_of_le_length (by omega), List.take_of_length_le (by omega)]
      have e2 : s.extract (j + 1) s.size = ba q := by
        rw [extract_ba, size_list, List.take_length, h4]
        congr 1
        rw [show j + 1 = p.length + 1 by omega, List.drop_append]
        simp
      rw [e1, e2]
      have e3 : splitB c s = ba p :: splitB c (ba q) := by
        rw [splitB, h4, splitL_at q h5, splitB, ba_list]
        rfl
      rw [e3]
      simp

theorem split_f (c : UInt8) (s : ByteArray) (hs : s.size ≤ 8796093022206) : Ev (fun k => cron_zzSplit.f k s (ba [c])) (splitB c s) := by
  refine ⟨s.size + 3, fun k hk => ?_⟩
  unfold cron_zzSplit.f
  show cron_zzSplit.l0 k s (ba [c]) [] = _
  rw [split_l0 c s.size s k [] (by omega) (by omega) (by omega) (by simp; omega)]
  simp

end Go.Proofs.YtmecbmgfacpecaaGreatDoor.Text

namespace Go.Proofs.YtmecbmgfacpecaaGreatDoor.Text
open Go Go.RowKit Go.Proofs.YtmecbmgfacpecaaGreatDoorW.PrintWords Go.Proofs.YtmecbmgfacpecaaGreatDoor.Pr
set_option linter.unusedVariables false

/-- v is a row of texts in block g -/
structure Texts (w : World) (g n cap : Nat) (l : List ByteArray) : Prop where
  len : n = l.length
  le : n ≤ cap
  lt : g < w.heap.size
  at_ : ∀ (i : Nat) x, l[i]? = some x → w.cell? ⟨g, i, none⟩ = some (.string x)

theorem Texts.below {w w' : World} {g n cap : Nat} {l : List ByteArray} (h : Texts w g n cap l) (hb : Below w.heap.size w w') : Texts w' g n cap l :=
  ⟨h.len, h.le, Nat.lt_of_lt_of_le h.lt hb.size, fun i x hx => (hb.cell (p := ⟨g, i, none⟩) h.lt).trans (h.at_ i x hx)⟩

theorem texts_of_R {e : Nat} {w : World} {base : Nat} {ok : Nat → Prop} {v : Value} {l : List ByteArray} (h : Kd.R Kd.string e w base ok v l) (hne : l ≠ []) :
    ∃ g n cap, v = .slice (some ⟨g, 0, none⟩) n cap ∧ base ≤ g ∧ Texts w g n cap l := by
  have ho := Kd.own_of_R h
  obtain ⟨_, h1 | ⟨g, cap, cur, rfl, hg, hb, hn, hc, hs, ht⟩⟩ := ho
  · exact absurd (List.length_eq_zero_iff.1 h1.2) hne
  · refine ⟨g, _, cap, rfl, hg, rfl, hn, ?_, fun i x hx => ?_⟩
    · exact (Array.getElem?_eq_some_iff.1 hb).1
    · have hi : i < l.length := (List.getElem?_eq_some_iff.1 hx).1
      have := (Kd.R_cell ByteArray.empty h (i : Int) (by omega) (by omega)).1
      rw [Int.toNat_natCast] at this
      rw [this]
      simp only [rdOf, Int.toNat_natCast, List.getD_eq_getElem?_getD, hx, Option.getD_some]

theorem zzSplit_any (c : UInt8) (s : ByteArray) (hs : s.size ≤ 8796093022206) (w : World) :
    Calls Tryz.prog 179 #[.string s, .string (ba [c])] w fun e w' => ∃ g n cap, e = .returned (.slice (some ⟨g, 0, none⟩) n cap) ∧ w.heap.size ≤ g ∧ Texts w' g n cap (splitB c s) ∧ Below w.heap.size w w' := by
  obtain ⟨k, hk⟩ := (split_f c s hs).rounds
  refine (cron_zzSplit.calls k s (ba [c]) _ w hk).mono ?_
  rintro e w' ⟨v, rfl, hR, hb⟩
  obtain ⟨g, n, cap, rfl, hg, ht⟩ := texts_of_R hR (splitB_ne c s)
  exact ⟨g, n, cap, rfl, hg, ht, hb⟩

end Go.Proofs.YtmecbmgfacpecaaGreatDoor.Text

namespace Go.Proofs.YtmecbmgfacpecaaGreatDoor.Bits
open Go

/-- the number whose bits below n are those of which p holds -/
def mkBits (p : Nat → Bool) : Nat → Nat
  | 0 => 0
  | n + 1 => mkBits p n + if p n then 2 ^ n else 0

theorem mkBits_lt (p : Nat → Bool) (n : Nat) : mkBits p n < 2 ^ n := by
  induction n with
  | zero => simp [mkBits]
  | succ n ih =>
    unfold mkBits
    rw [Nat.pow_succ]
    split <;> omega

theorem mkBits_test (p : Nat → Bool) (n j : Nat) : (mkBits p n).testBit j = (decide (j < n) && p j) := by
  induction n with
  | zero => simp [mkBits]
  | succ n ih =>
    unfold mkBits
    have hl := mkBits_lt p n
    by_cases hp : p n = true
    · rw [if_pos hp]
      by_cases h : j = n
      · subst h
        rw [show mkBits p j + 2 ^ j = 2 ^ j + mkBits p j by omega, Nat.testBit_two_pow_add_eq, ih]
        simp [hp]
      · by_cases h2 : j < n
        · rw [show mkBits p n + 2 ^ n = 2 ^ n + mkBits p n by omega, Nat.testBit_two_pow_add_gt h2, ih]
          simp [h2, Nat.lt_succ_of_lt h2]
        · have h3 : n + 1 ≤ j := by omega
          have h4 : ¬ j < n + 1 := by omega
          rw [Nat.testBit_lt_two_pow]
          · simp [h4]
          · calc _ < 2 ^ (n + 1) := by rw [Nat.pow_succ]; omega
              _ ≤ 2 ^ j := Nat.pow_le_pow_right (by decide) h3
    · rw [if_neg hp, Nat.add_zero, ih]
      by_cases h : j = n
      · subst h; simp [hp]
      · have : (j < n) = (j < n + 1) := by apply propext; omega
        simp [this]

theorem mkBits_ext {p q : Nat → Bool} (n : Nat) (h : ∀ j, j < n → p j = q j) : mkBits p n = mkBits q n := by
  apply Nat.eq_of_testBit_eq
  intro j
  rw [mkBits_test, mkBits_test]
  by_cases hj : j < n
  · simp [hj, h j hj]
  · simp [hj]

theorem eq_mkBits {x n : Nat} {p : Nat → Bool} (hx : x < 2 ^ n) (h : ∀ j, j < n → x.testBit j = p j) : x = mkBits p n := by
  apply Nat.eq_of_testBit_eq
  intro j
  rw [mkBits_test]
  by_cases hj : j < n
  · simp [hj, h j hj]
  · have : x < 2 ^ j := Nat.lt_of_lt_of_le hx (Nat.pow_le_pow_right (by decide) (by omega))
    rw [Nat.testBit_lt_two_pow this]
    simp [hj]

theorem mkBits_or (p q : Nat → Bool) (n : Nat) : mkBits p n ||| mkBits q n = mkBits (fun j => p j || q j) n := by
  apply eq_mkBits (Nat.or_lt_two_pow (mkBits_lt _ _) (mkBits_lt _ _))
  intro j hj
  simp [mkBits_test, hj]

theorem mkBits_and (p q : Nat → Bool) (n : Nat) : mkBits p n &&& mkBits q n = mkBits (fun j => p j && q j) n := by
  apply eq_mkBits (Nat.and_lt_two_pow _ (mkBits_lt _ _))
  intro j hj
  simp [mkBits_test, hj]

theorem mkBits_xor (p q : Nat → Bool) (n : Nat) : mkBits p n ^^^ mkBits q n = mkBits (fun j => p j ^^ q j) n := by
  apply eq_mkBits (Nat.xor_lt_two_pow (mkBits_lt _ _) (mkBits_lt _ _))
  intro j hj
  simp [mkBits_test, hj]

theorem pow_mkBits (i n : Nat) (h : i < n) : 2 ^ i = mkBits (fun j => j == i) n := by
  apply eq_mkBits (Nat.pow_lt_pow_right (by decide) h)
  intro j _
  rw [Nat.testBit_two_pow]
  by_cases h : j = i
  · subst h; simp
  · have : ¬ i = j := fun e => h e.symm
    simp [h, this]

theorem wrap_u64 (n : Int) : IntKind.u64.wrap n = n % 18446744073709551616 := by simp [IntKind.wrap, IntKind.bits, IntKind.signed]

theorem wraps_u64 (n : Int) (h₀ : 0 ≤ n) (h₁ : n < 2 ^ 64) : IntKind.u64.wrap n = n := by rw [wrap_u64]; omega

theorem and_u64 {a b : Nat} (ha : a < 2 ^ 64) (hb : b < 2 ^ 64) : bits .and .u64 (a : Int) (b : Int) = ((a &&& b : Nat) : Int) :=
  (bits_nat .u64 64 (by decide) wraps_u64 a b ha hb).1

theorem or_u64 {a b : Nat} (ha : a < 2 ^ 64) (hb : b < 2 ^ 64) : bits .or .u64 (a : Int) (b : Int) = ((a ||| b : Nat) : Int) :=
  (bits_nat .u64 64 (by decide) wraps_u64 a b ha hb).2

theorem xor_u64 {a b : Nat} (ha : a < 2 ^ 64) (hb : b < 2 ^ 64) : bits .xor .u64 (a : Int) (b : Int) = ((a ^^^ b : Nat) : Int) := by
  have ha' : a % 2 ^ 64 = a := Nat.mod_eq_of_lt ha
  have hb' : b % 2 ^ 64 = b := Nat.mod_eq_of_lt hb
  have e : IntKind.u64.bits = 64 := rfl
  unfold bits
  rw [e]
  show IntKind.u64.wrap ((BitVec.ofInt 64 (a : Int) ^^^ BitVec.ofInt 64 (b : Int)).toNat : Int) = _
  rw [BitVec.ofInt_natCast, BitVec.ofInt_natCast, BitVec.toNat_xor, BitVec.toNat_ofNat, BitVec.toNat_ofNat, ha', hb']
  exact wraps_u64 _ (Int.natCast_nonneg _) (by exact_mod_cast Nat.xor_lt_two_pow ha hb)

theorem shl_one {i : Int} (h0 : 0 ≤ i) (h : i ≤ 63) : IntKind.u64.wrap (2 ^ i.toNat) = ((2 ^ i.toNat : Nat) : Int) := by
  rw [wraps_u64]
  · rw [Int.natCast_pow]; rfl
  · exact Int.pow_nonneg (by decide)
  · have : (2 : Nat) ^ i.toNat < 2 ^ 64 := Nat.pow_lt_pow_right (by decide) (by omega)
    exact_mod_cast this

theorem max_table : ∀ n, n < 65 → (18446744073709551615 * 2 ^ n) % 18446744073709551616 = mkBits (fun j => decide (n ≤ j)) 64 := by decide +kernel

theorem shl_max {i : Int} (h0 : 0 ≤ i) (h : i ≤ 64) : IntKind.u64.wrap (18446744073709551615 * 2 ^ i.toNat) = ((mkBits (fun j => decide (i.toNat ≤ j)) 64 : Nat) : Int) := by
  rw [wrap_u64, ← max_table i.toNat (by omega), Int.natCast_emod, Int.natCast_mul, Int.natCast_pow]
  rfl

theorem max_u64 : IntKind.u64.max = ((mkBits (fun _ => true) 64 : Nat) : Int) := by decide +kernel

/-- the set of lo, lo + st, lo + 2 st .. up to hi -/
def steps (lo hi st : Nat) : Nat := mkBits (fun j => decide (lo ≤ j) && decide (j ≤ hi) && ((j - lo) % st == 0)) 64

theorem steps_lt (lo hi st : Nat) : steps lo hi st < 2 ^ 64 := mkBits_lt _ _

/-- what the loop has collected ahead of i -/
def below (lo i st : Nat) : Nat := mkBits (fun j => decide (lo ≤ j) && decide (j < i) && ((j - lo) % st == 0)) 64

theorem below_lt (lo i st : Nat) : below lo i st < 2 ^ 64 := mkBits_lt _ _

theorem below_start (lo st : Nat) : below lo lo st = 0 := by
  unfold below
  rw [mkBits_ext (q := fun _ => false)]
  · decide
  · intro j _
    by_cases h : lo ≤ j
    · have : ¬ j < lo := by omega
      simp [this]
    · simp [h]

theorem below_step {lo i st : Nat} (m : Nat) (hi : i = lo + m * st) (hs : 1 ≤ st) (h63 : i ≤ 63) : below lo i st ||| 2 ^ i = below lo (i + st) st := by
  unfold below
  rw [pow_mkBits i 64 (by omega), mkBits_or]
  apply mkBits_ext
  intro j _
  by_cases h1 : j < i
  · have h2 : j < i + st := by omega
    have h3 : (j == i) = false := by simp; omega
    simp [h1, h2, h3]
  · by_cases h2 : j = i
    · subst h2
      have : (j - lo) % st = 0 := by rw [hi]; simp
      simp [this]
      omega
    · have h3 : (j == i) = false := by simpa using h2
      rw [h3, Bool.or_false]
      by_cases h4 : j < i + st
      · have h5 : (j - lo) % st = j - i := by
          have : j - lo = st * m + (j - i) := by rw [Nat.mul_comm]; omega
          rw [this, Nat.mul_add_mod]
          exact Nat.mod_eq_of_lt (by omega)
        have h6 : ((j - lo) % st == 0) = false := by rw [h5]; simp; omega
        simp [h6]
      · simp [h1, h4]

theorem below_end {lo i hi st : Nat} (m : Nat) (hm : i = lo + m * st) (h : hi < i) (hp : i ≤ hi + st) (hlo : lo ≤ hi) : below lo i st = steps lo hi st := by
  unfold below steps
  apply mkBits_ext
  intro j _
  by_cases h1 : j ≤ hi
  · have : j < i := by omega
    simp [h1, this]
  · by_cases h2 : j < i
    · have h6 : ((j - lo) % st == 0) = false := by
        simp
        intro e
        obtain ⟨q, hq⟩ := Nat.dvd_of_mod_eq_zero e
        -- lo + q st = j, hi < j < lo + m st, so q < m, so j ≤ i - st ≤ hi
        have hj : j = lo + st * q := by omega
        have : q < m := by
          apply Nat.lt_of_not_le
          intro hmq
          have := Nat.mul_le_mul_left st hmq
          rw [Nat.mul_comm m st] at hm
          omega
        have h7 := Nat.mul_le_mul_left st (show q + 1 ≤ m from this)
        rw [Nat.mul_add, Nat.mul_one] at h7
        rw [Nat.mul_comm m st] at hm
        omega
      simp [h6]
    · simp [h1, h2]

theorem steps_one (lo hi : Nat) (h : hi ≤ 63) : bits .and .u64 (bits .xor .u64 IntKind.u64.max (IntKind.u64.wrap (18446744073709551615 * 2 ^ ((hi : Int) + 1).toNat))) (IntKind.u64.wrap (18446744073709551615 * 2 ^ (lo : Int).toNat)) = (steps lo hi 1 : Int) ∨ 64 < lo := by
  by_cases hl : lo ≤ 64
  · left
    rw [shl_max (by omega) (by omega), shl_max (by omega) (by omega), max_u64, xor_u64 (mkBits_lt _ _) (mkBits_lt _ _), mkBits_xor, and_u64 (mkBits_lt _ _) (mkBits_lt _ _), mkBits_and]
    congr 1
    apply mkBits_ext
    intro j _
    by_cases a : lo ≤ j <;> by_cases b : j ≤ hi
    · have h1 : j < hi + 1 := by omega
      simp [a, b, h1, Nat.mod_one]
    · have h1 : hi + 1 ≤ j := by omega
      simp [a, b]; omega
    · simp [a]
    · simp [a]
  · right; omega

end Go.Proofs.YtmecbmgfacpecaaGreatDoor.Bits

namespace Go.Proofs.YtmecbmgfacpecaaGreatDoor.Cron
open Go Go.Proofs.YtmecbmgfacpecaaGreatDoor.Text Go.Proofs.YtmecbmgfacpecaaGreatDoor.Bits

/-- the ends of an item that is no star -/
def endsRest (val : List UInt8 → Option Nat) : Option Nat → List (List UInt8) → Option (Nat × Nat × Bool)
  | none, _ => none
  | some a, [] => some (a, a, false)
  | some a, [e2] => match val e2 with
    | none => none
    | some b => some (a, b, false)
  | some _, _ => none

/-- the ends of an item, and whether it is a star -/
def ends (val : List UInt8 → Option Nat) (lo hi : Nat) : List (List UInt8) → Option (Nat × Nat × Bool)
  | [] => none
  | e :: r => if e = [42] ∨ e = [63] then some (lo, hi, true) else endsRest val (val e) r

/-- the mark of a star -/
def starBits (b : Bool) : Int := if b then 9223372036854775808 else 0

def StarIs (st : Bool) (q : List UInt8) : Prop := st = true ↔ q = [42] ∨ q = [63]

/-- the step, the last value and whether the star stays -/
def stepOf (hi : Nat) (single : Bool) (b : Nat) (star : Bool) : List (List UInt8) → Option (Nat × Nat × Bool)
  | [] => some (1, b, star)
  | [t] => match mp t with
    | none => none
    | some k => some (k, if single then hi else b, if 1 < k then false else star)
  | _ => none

/-- the bits of an item -/
def bitsOf (lo hi a b k : Nat) (star : Bool) : Option Nat :=
  if a < lo then none else if hi < b then none else if b < a then none else if k = 0 then none
  else some (steps a b k ||| (if star then 9223372036854775808 else 0))

/-- what follows when the ends are known -/
def rangeFin (lo hi : Nat) (single : Bool) (a b : Nat) (star : Bool) (ps : List (List UInt8)) : Option Nat :=
  match stepOf hi single b star ps with
  | none => none
  | some (k, b', star') => bitsOf lo hi a b' k star'

def rangeS (val : List UInt8 → Option Nat) (lo hi : Nat) (s : List UInt8) : Option Nat :=
  match splitL 47 s with
  | [] => none
  | p :: ps =>
    match ends val lo hi (splitL 45 p) with
    | none => none
    | some (a, b, star) => rangeFin lo hi ((splitL 45 p).length == 1) a b star ps

theorem rangeS_none {val : List UInt8 → Option Nat} {lo hi : Nat} {s p q : List UInt8} {ps qs : List (List UInt8)} (h1 : splitL 47 s = p :: ps) (h2 : splitL 45 p = q :: qs) (h3 : ends val lo hi (q :: qs) = none) : rangeS val lo hi s = none := by
  unfold rangeS
  rw [h1]
  simp only
  rw [h2, h3]

theorem rangeS_some {val : List UInt8 → Option Nat} {lo hi a b : Nat} {st : Bool} {s p q : List UInt8} {ps qs : List (List UInt8)} (h1 : splitL 47 s = p :: ps) (h2 : splitL 45 p = q :: qs) (h3 : ends val lo hi (q :: qs) = some (a, b, st)) : rangeS val lo hi s = rangeFin lo hi ((q :: qs).length == 1) a b st ps := by
  unfold rangeS
  rw [h1]
  simp only
  rw [h2, h3]

theorem fin_none {lo hi a b : Nat} {sg st : Bool} {ps : List (List UInt8)} (h : stepOf hi sg b st ps = none) : rangeFin lo hi sg a b st ps = none := by unfold rangeFin; rw [h]
theorem fin_some {lo hi a b k b' : Nat} {sg st st' : Bool} {ps : List (List UInt8)} (h : stepOf hi sg b st ps = some (k, b', st')) : rangeFin lo hi sg a b st ps = bitsOf lo hi a b' k st' := by unfold rangeFin; rw [h]

theorem starBits_nat (b : Bool) : starBits b = ((if b then 9223372036854775808 else 0 : Nat) : Int) := by cases b <;> rfl
theorem or_star {n : Nat} (h : n < 2 ^ 64) (b : Bool) : bits .or .u64 (n : Int) (starBits b) = ((n ||| (if b then 9223372036854775808 else 0) : Nat) : Int) := by
  rw [starBits_nat]
  exact or_u64 h (by cases b <;> decide)

theorem ends_star {val : List UInt8 → Option Nat} {lo hi : Nat} {q : List UInt8} (qs : List (List UInt8)) (h : q = [42] ∨ q = [63]) : ends val lo hi (q :: qs) = some (lo, hi, true) := by
  simp only [ends]; rw [if_pos h]

theorem ends_else {val : List UInt8 → Option Nat} {lo hi : Nat} {q : List UInt8} (qs : List (List UInt8)) (h : ¬ (q = [42] ∨ q = [63])) : ends val lo hi (q :: qs) = endsRest val (val q) qs := by
  simp only [ends]; rw [if_neg h]

theorem ends_true {val : List UInt8 → Option Nat} {lo hi : Nat} {q : List UInt8} (qs : List (List UInt8)) (h : StarIs true q) : ends val lo hi (q :: qs) = some (lo, hi, true) :=
  ends_star qs (h.1 rfl)

theorem ends_false {val : List UInt8 → Option Nat} {lo hi : Nat} {q : List UInt8} (qs : List (List UInt8)) (h : StarIs false q) : ends val lo hi (q :: qs) = endsRest val (val q) qs :=
  ends_else qs (fun e => by have := h.2 e; cases this)

theorem eq42 {q : List UInt8} : ((ba q).toList == [42]) = decide (q = [42]) := by rw [toList_data, ba_list]; exact Bool.eq_iff_iff.2 ⟨fun h => decide_eq_true (eq_of_beq h), fun h => beq_iff_eq.2 (of_decide_eq_true h)⟩
theorem eq63 {q : List UInt8} : ((ba q).toList == [63]) = decide (q = [63]) := by rw [toList_data, ba_list]; exact Bool.eq_iff_iff.2 ⟨fun h => decide_eq_true (eq_of_beq h), fun h => beq_iff_eq.2 (of_decide_eq_true h)⟩
theorem eq42_true {q : List UInt8} (h : q = [42]) : ((ba q).toList == [42]) = true := by rw [eq42]; exact decide_eq_true h
theorem eq42_false {q : List UInt8} (h : ¬ q = [42]) : ((ba q).toList == [42]) = false := by rw [eq42]; exact decide_eq_false h
theorem eq63_true {q : List UInt8} (h : q = [63]) : ((ba q).toList == [63]) = true := by rw [eq63]; exact decide_eq_true h
theorem eq63_false {q : List UInt8} (h : ¬ q = [63]) : ((ba q).toList == [63]) = false := by rw [eq63]; exact decide_eq_false h

end Go.Proofs.YtmecbmgfacpecaaGreatDoor.Cron
