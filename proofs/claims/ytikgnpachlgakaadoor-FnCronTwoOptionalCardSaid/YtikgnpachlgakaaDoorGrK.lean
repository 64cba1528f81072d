/- Lemmas and walks on the way to the law, merged by wip/tools/pack.py: Takes, LawTwoOptional, TwoOptionalWalk. Conditions: none. -/
import Derived.Test.YtikgnpachlgakaaDoorGrG
import Derived.Lib.Hide
import Derived.Outline
import Derived.Test.YtikgnpachlgakaaDoorGrJ
import Derived.Test.YtikgnpachlgakaaDoorGrA
import Derived.Test.YtikgnpachlgakaaDoorRows
import Derived.OpenShut
namespace Go.Proofs.YtikgnpachlgakaaDoor.Cron
open Go Go.RowKit Go.Proofs.YtikgnpachlgakaaDoor.Text Go.Proofs.YtikgnpachlgakaaDoor.Bits
set_option linter.unusedVariables false
set_option linter.unusedSimpArgs false

def maskK (k : Nat) : Nat := if k = 0 then 3 else if k = 1 then 4 else if k = 2 then 8 else if k = 3 then 16 else if k = 4 then 32 else 192
/-- the options take a field of a kind -/
def takeB (o k : Nat) : Bool := !decide (o &&& maskK k = 0)

theorem neq_zero (x : Nat) : ((x : Int) != 0) = !decide (x = 0) := by
  by_cases h : x = 0
  · subst h; rfl
  · rw [decide_eq_false h]
    simpa using h

theorem takes_any (o : Nat) (ho : o < 512) (k : Nat) (hk : k < 6) (w : World) :
    Calls Tryd.prog 47 #[.int .i64 o, .int .i64 k] w fun e w' => e = .returned (.bool (takeB o k)) ∧ Below w.heap.size w w' := by
  have hk6 : k = 0 ∨ k = 1 ∨ k = 2 ∨ k = 3 ∨ k = 4 ∨ k = 5 := by omega
  rcases hk6 with rfl | rfl | rfl | rfl | rfl | rfl
  · have hand : bits .and .i64 (o : Int) 3 = ((o &&& 3 : Nat) : Int) := and_i64 (b := 3) (by omega) (by decide)
    have e : (((o &&& 3 : Nat) : Int) != 0) = takeB o 0 := neq_zero _
    have E := Lib.hid e
    clear e
    go_enter Tryd.func47, Tryd.ntmps47
    go_wp2_with fail
    go_ret
    refine ⟨?_, (Below.refl _ _).alloc (Nat.le_refl _) _⟩
    simp [hand, E.out]
  · have hand : bits .and .i64 (o : Int) 4 = ((o &&& 4 : Nat) : Int) := and_i64 (b := 4) (by omega) (by decide)
    have e : (((o &&& 4 : Nat) : Int) != 0) = takeB o 1 := neq_zero _
    have E := Lib.hid e
    clear e
    go_enter Tryd.func47, Tryd.ntmps47
    go_wp2_with fail
    go_ret
    refine ⟨?_, (Below.refl _ _).alloc (Nat.le_refl _) _⟩
    simp [hand, E.out]
  · have hand : bits .and .i64 (o : Int) 8 = ((o &&& 8 : Nat) : Int) := and_i64 (b := 8) (by omega) (by decide)
    have e : (((o &&& 8 : Nat) : Int) != 0) = takeB o 2 := neq_zero _
    have E := Lib.hid e
    clear e
    go_enter Tryd.func47, Tryd.ntmps47
    go_wp2_with fail
    go_ret
    refine ⟨?_, (Below.refl _ _).alloc (Nat.le_refl _) _⟩
    simp [hand, E.out]
  · have hand : bits .and .i64 (o : Int) 16 = ((o &&& 16 : Nat) : Int) := and_i64 (b := 16) (by omega) (by decide)
    have e : (((o &&& 16 : Nat) : Int) != 0) = takeB o 3 := neq_zero _
    have E := Lib.hid e
    clear e
    go_enter Tryd.func47, Tryd.ntmps47
    go_wp2_with fail
    go_ret
    refine ⟨?_, (Below.refl _ _).alloc (Nat.le_refl _) _⟩
    simp [hand, E.out]
  · have hand : bits .and .i64 (o : Int) 32 = ((o &&& 32 : Nat) : Int) := and_i64 (b := 32) (by omega) (by decide)
    have e : (((o &&& 32 : Nat) : Int) != 0) = takeB o 4 := neq_zero _
    have E := Lib.hid e
    clear e
    go_enter Tryd.func47, Tryd.ntmps47
    go_wp2_with fail
    go_ret
    refine ⟨?_, (Below.refl _ _).alloc (Nat.le_refl _) _⟩
    simp [hand, E.out]
  · have hand : bits .and .i64 (o : Int) 192 = ((o &&& 192 : Nat) : Int) := and_i64 (b := 192) (by omega) (by decide)
    have e : (((o &&& 192 : Nat) : Int) != 0) = takeB o 5 := neq_zero _
    have E := Lib.hid e
    clear e
    go_enter Tryd.func47, Tryd.ntmps47
    go_wp2_with fail
    go_ret
    refine ⟨?_, (Below.refl _ _).alloc (Nat.le_refl _) _⟩
    simp [hand, E.out]

/-- how many fields are taken, of the first k -/
def takenC (o : Nat) : Nat → Nat
  | 0 => 0
  | k + 1 => takenC o k + (if takeB o k then 1 else 0)

theorem takenC_le (o : Nat) : ∀ k, takenC o k ≤ k
  | 0 => Nat.le_refl _
  | k + 1 => by
    have := takenC_le o k
    unfold takenC
    split <;> omega

set_option maxRecDepth 100000 in
theorem taken_any (o : Nat) (ho : o < 512) (w : World) :
    Calls Tryd.prog 25 #[.int .i64 o] w fun e w' => e = .returned (.int .i64 (takenC o 6 : Nat)) ∧ Below w.heap.size w w' := by
  have HT := Lib.hid (fun k hk w' => takes_any o ho k hk w')
  go_enter Tryd.func25, Tryd.ntmps25
  go_wp2_with fail
  go_loopw [3, 5] (fun v2 v5 wr => ∃ k : Nat, v5 = .int .i64 k ∧ k ≤ 6 ∧ v2 = .int .i64 (takenC o k : Nat) ∧ Below w.heap.size w wr) (fun _ v5 _ => 6 - (intOf v5).toNat)
  case atStart => exact ⟨0, rfl, by omega, rfl, Below.refl _ _⟩
  case round =>
    obtain ⟨k, rfl, hk, rfl, hbr⟩ := hrel
    have hle := takenC_le o k
    by_cases h6 : k < 6
    · have HS : Hid (takenC o (k + 1) = takenC o k + (if takeB o k then 1 else 0)) := Lib.hid rfl
      have HC := Lib.hid (HT.out k h6)
      generalize takenC o k = n at *
      generalize takeB o k = b at *
      cases b with
      | true =>
        go_wp2_with fail
        refine (HC.out _).mono ?_
        rintro e w1 ⟨rfl, hb1⟩
        have hB1 := below_of_le hbr hb1
        go_wp2_with fail
        go_roundw
        case rel => exact ⟨k + 1, by go_num, by omega, by rw [HS.out]; first | rfl | go_num, hB1⟩
        case measure => simp [intOf]; omega
      | false =>
        go_wp2_with fail
        refine (HC.out _).mono ?_
        rintro e w1 ⟨rfl, hb1⟩
        have hB1 := below_of_le hbr hb1
        go_wp2_with fail
        go_roundw
        case rel => exact ⟨k + 1, by go_num, by omega, by rw [HS.out]; first | rfl | go_num, hB1⟩
        case measure => simp [intOf]; omega
    · have hk6 : k = 6 := by omega
      subst hk6
      go_wp2_with fail
      go_ret
      exact ⟨rfl, hbr⟩

/-- a text of stars -/
def starsL : Nat → List UInt8
  | 0 => []
  | 1 => [42]
  | n + 2 => starsL (n + 1) ++ [32, 42]

theorem stars_len : ∀ n, (starsL n).length ≤ 2 * n
  | 0 => by simp [starsL]
  | 1 => by simp [starsL]
  | n + 2 => by
    have := stars_len (n + 1)
    unfold starsL
    simp
    omega

theorem stars_ne (n : Nat) : starsL (n + 1) ≠ [] := by
  cases n <;> simp [starsL]

def StarRel (k : Nat) (x : ByteArray) : Prop := x = ⟨(starsL k).toArray⟩

set_option maxRecDepth 100000 in
theorem stars_any (o : Nat) (ho : o < 512) (w : World) :
    Calls Tryd.prog 23 #[.int .i64 o] w fun e w' => e = .returned (.string ⟨(starsL (takenC o 6)).toArray⟩) ∧ Below w.heap.size w w' := by
  have HT := Lib.hid (taken_any o ho)
  have hle := takenC_le o 6
  generalize takenC o 6 = n at *
  go_enter Tryd.func23, Tryd.ntmps23
  go_wp2_with fail
  refine (HT.out _).mono ?_
  rintro e w1 ⟨rfl, hb1⟩
  go_wp2_with fail
  go_loopw [3, 6] (fun v3 v6 wr => ∃ (k : Nat) (x : ByteArray), v6 = .int .i64 k ∧ k ≤ n ∧ v3 = .string x ∧ StarRel k x ∧ Below w1.heap.size w1 wr) (fun _ v6 _ => 6 - (intOf v6).toNat)
  case atStart => exact ⟨0, _, rfl, by omega, rfl, rfl, Below.refl _ _⟩
  case round =>
    obtain ⟨k, x, rfl, hk, rfl, HX, hbr⟩ := hrel
    by_cases h6 : k < n
    · cases k with
      | zero =>
        have hx0 : x = ⟨#[]⟩ := HX
        subst hx0
        clear HX
        go_wp2_with fail
        go_roundw
        case rel => exact ⟨1, _, by go_num, by omega, rfl, (rfl : StarRel 1 ⟨#[42]⟩), hbr⟩
        case measure => simp [intOf] <;> omega
      | succ k =>
        have hsz : x.size ≤ 12 := by
          rw [show x = _ from HX]
          have := stars_len (k + 1)
          simp [ByteArray.size]
          omega
        have hn0 : x.toList ≠ [] := by
          rw [show x = _ from HX, toList_data]
          exact stars_ne k
        have hn1 : (x.toList == []) = false := by simpa using hn0
        have hn2 : x.toList.isEmpty = false := by simpa using hn0
        have hn3 : (x.toList != []) = true := by simpa using hn0
        have HN : StarRel (k + 2) (x ++ ⟨#[32]⟩ ++ ⟨#[42]⟩) := by
          rw [show x = _ from HX]
          unfold StarRel
          apply ByteArray.ext
          simp [starsL]
        go_wp2_with fail
        go_roundw
        case rel => exact ⟨k + 2, _, by go_num, by omega, rfl, HN, hbr⟩
        case measure => simp [intOf]; omega
    · have hk6 : k = n := by omega
      subst hk6
      go_wp2_with fail
      go_ret
      exact ⟨by rw [show x = _ from HX]; rfl, below_of_le hb1 hbr⟩
end Go.Proofs.YtikgnpachlgakaaDoor.Cron

namespace Go.Proofs.YtikgnpachlgakaaDoor.Cron
open Go Go.RowKit Go.Proofs.YtikgnpachlgakaaDoor.Text Go.Proofs.YtikgnpachlgakaaDoor.Bits Go.Proofs.YtikgnpachlgakaaDoorW.PrintWords Go.Proofs.YtikgnpachlgakaaDoorW.PrintLast Go.Proofs.YtikgnpachlgakaaDoorW.PrintMore Go.Proofs.YtikgnpachlgakaaDoor.Pr
set_option linter.unusedVariables false
set_option linter.unusedSimpArgs false

theorem stars_fields (n : Nat) (h : n ≤ 6) : fieldsZ ⟨(starsL n).toArray⟩ = List.replicate n ⟨#[42]⟩ := by
  have : n = 0 ∨ n = 1 ∨ n = 2 ∨ n = 3 ∨ n = 4 ∨ n = 5 ∨ n = 6 := by omega
  rcases this with rfl | rfl | rfl | rfl | rfl | rfl | rfl <;> decide +kernel

theorem stars_prefix (n : Nat) (h : n ≤ 6) : Lib.hasPrefix (starsL n) [84, 90, 61] = false ∧ Lib.hasPrefix (starsL n) [67, 82, 79, 78, 95, 84, 90, 61] = false ∧ Lib.hasPrefix (starsL n) [64] = false := by
  have : n = 0 ∨ n = 1 ∨ n = 2 ∨ n = 3 ∨ n = 4 ∨ n = 5 ∨ n = 6 := by omega
  rcases this with rfl | rfl | rfl | rfl | rfl | rfl | rfl <;> decide +kernel

/-- what the parser says of a star for each field -/
def starsOk (o : Nat) : Bool := (parseS ⟨(starsL (takenC o 6)).toArray⟩ o).isSome

set_option maxRecDepth 100000 in
theorem stars_all : ∀ o : Fin 512, twoB o.val = true ∨ starsOk o.val = !decide (takenC o.val 6 = 0) := by decide +kernel

theorem two_all : ∀ o : Fin 512, spec_CronTwoOptional.f (o.val : Int) = some (twoB o.val) := by decide +kernel

set_option maxRecDepth 100000 in
theorem lawTwoOptional_any (o : Int) (w : World) (hg : G w) :
    Calls Tryd.prog 7 #[.int .i64 o] w fun e w' => e = .returned (.bool true) ∧ Below w.heap.size w w' := by
  by_cases h1 : o < 0
  · go_enter Tryd.func7, Tryd.ntmps7
    go_wp2_with fail
    go_ret
    exact ⟨rfl, Below.refl _ _⟩
  by_cases h2 : 512 ≤ o
  · go_enter Tryd.func7, Tryd.ntmps7
    go_wp2_with fail
    go_ret
    exact ⟨rfl, Below.refl _ _⟩
  obtain ⟨n, rfl⟩ : ∃ n : Nat, o = n := ⟨o.toNat, by omega⟩
  have ho : n < 512 := by omega
  have hst := stars_all ⟨n, ho⟩
  have htw := two_all ⟨n, ho⟩
  simp only at hst htw
  have hpf := stars_prefix (takenC n 6) (takenC_le n 6)
  have hle := takenC_le n 6
  have hsz : (⟨(starsL (takenC n 6)).toArray⟩ : ByteArray).size ≤ 4294967296 := by
    have := stars_len (takenC n 6)
    simp [ByteArray.size]
    omega
  have HS := Lib.hid (stars_any n ho)
  have HT := Lib.hid (taken_any n ho)
  have HP := Lib.hid (fun w' hg' => parseCron_any n ho ⟨(starsL (takenC n 6)).toArray⟩ hsz hpf.1 hpf.2.1 hpf.2.2 w' hg')
  have HW := Lib.hid (fun w' => spec_CronTwoOptional.calls n (twoB n) w' htw)
  have HPP := Lib.hid (parserPanics_any n ho)
  have HST : Hid (twoB n = true ∨ (parseS ⟨(starsL (takenC n 6)).toArray⟩ n).isSome = !decide (takenC n 6 = 0)) := Lib.hid hst
  have HG := Lib.hid (fun w' (h : Below w.heap.size w w') => hg.below h)
  clear hst htw hpf hsz hg
  generalize parseS ⟨(starsL (takenC n 6)).toArray⟩ n = r at *
  generalize takenC n 6 = k at *
  generalize (⟨(starsL k).toArray⟩ : ByteArray) = st at *
  generalize twoB n = tw at *
  go_enter Tryd.func7, Tryd.ntmps7
  go_wp2_with fail
  refine (HS.out _).mono ?_
  rintro e w1 ⟨rfl, hb1⟩
  have HB1 := Lib.hid hb1
  clear hb1
  go_wp2_with fail
  refine (HP.out _ (HG.out _ HB1.out)).mono ?_
  intro e w2 hP
  have hq : ∃ (cs : Array Value) (ok : Bool), e = .returned (.tuple #[.agg cs, .bool ok]) ∧ cs.size = 8 ∧ cs.all (·.oneCell') = true ∧ Hid (ok = (!tw && r.isSome)) ∧ Below w1.heap.size w1 w2 := by
    obtain ⟨hres, hb2⟩ := hP
    cases tw with
    | true => exact ⟨_, false, hres, rfl, noSched_one, Lib.hid rfl, hb2⟩
    | false =>
      rw [if_neg (by decide)] at hres
      cases r with
      | none => exact ⟨_, false, hres, rfl, noSched_one, Lib.hid rfl, hb2⟩
      | some l => exact ⟨_, true, hres, rfl, sched_one l, Lib.hid rfl, hb2⟩
  obtain ⟨cs, ok, rfl, hc8, hc1, HOK, hb2⟩ := hq
  have HC8 := Lib.hid hc8
  have HB2' := below_of_le HB1.out hb2
  have HNEW : Hid ((w2.alloc (.cells noSched 48)).heap[w2.heap.size]? = some (.cells noSched 48 (0, 0))) := Lib.hid (heap_alloc_new w2 _)
  have HB2 : Hid (Below w.heap.size w ((w2.alloc (.cells noSched 48)).setRow w2.heap.size cs)) := Lib.hid (below_setRow (HB2'.alloc HB2'.size _) HB2'.size _)
  clear hb2 hP HP HS HB1 HB2' hc8
  go_wp2_with (refine wpList_store_sched rfl _ _ rfl w2.heap.size cs noSched rfl rfl HC8.out hc1 rfl HNEW.out ?_)
  refine (HW.out _).mono ?_
  rintro e w3 ⟨rfl, hb3⟩
  have HB3 := Lib.hid (below_of_le HB2.out (drawn_below hb3))
  clear hb3 HB2 HW
  go_wp2_with fail
  refine (HT.out _).mono ?_
  rintro e w4 ⟨rfl, hb4⟩
  have HB4 := Lib.hid (below_of_le HB3.out hb4)
  clear hb4 HB3 HT
  by_cases hk : k = 0
  · subst hk
    have hok : ok = false := by
      rw [HOK.out]
      rcases HST.out with h | h
      · rw [h]; rfl
      · rw [h]; simp
    subst hok
    clear HOK HST
    go_wp2_with fail
    refine (HPP.out _).mono ?_
    rintro e w5 ⟨rfl, hb5⟩
    have HB5 := Lib.hid (below_of_le HB4.out hb5)
    clear hb5 HB4 HPP
    have hbq : (tw == tw) = true := by simp
    go_wp2_with fail
    go_ret
    refine ⟨?_, HB5.out⟩
    first | rfl | simp
  · have hok : ok = !tw := by
      rw [HOK.out]
      rcases HST.out with h | h
      · rw [h]; rfl
      · rw [h, decide_eq_false hk]; simp
    subst hok
    have hk0 : ((k : Int) == 0) = false := by
      rw [beq_eq_false_iff_ne]
      omega
    clear HOK HST
    go_wp2_with fail
    refine (HPP.out _).mono ?_
    rintro e w5 ⟨rfl, hb5⟩
    have HB5 := Lib.hid (below_of_le HB4.out hb5)
    clear hb5 HB4 HPP
    cases tw
    · go_wp2_with fail
      go_ret
      refine ⟨?_, HB5.out⟩
      first | rfl | simp
    · go_wp2_with fail
      go_ret
      refine ⟨?_, HB5.out⟩
      first | rfl | simp
end Go.Proofs.YtikgnpachlgakaaDoor.Cron

namespace Go.Proofs.YtikgnpachlgakaaDoor.Cron
open Go Go.RowKit
set_option linter.unusedVariables false

theorem twoOptional_walk (a0 : Int) (w0 : (Lit.int .i64 a0).wf = true) (W : World) (hL : laidMetH Tryd.prog Rows.fnCronTwoOptionalRow.laid W) :
    Calls Tryd.prog 7 #[.int .i64 a0] W fun e w' => e = .returned (.bool true) ∧ Below W.heap.size W w' := by
  rw [MakeChecks.laidMetH_plain _ _ _ (by kernel_rfl)] at hL
  exact lawTwoOptional_any a0 W (g_of_met hL (by first | exact List.mem_of_getElem? (i := 0) rfl | exact List.mem_of_getElem? (i := 1) rfl | exact List.mem_of_getElem? (i := 2) rfl | exact List.mem_of_getElem? (i := 3) rfl | exact List.mem_of_getElem? (i := 4) rfl | exact List.mem_of_getElem? (i := 5) rfl | exact List.mem_of_getElem? (i := 6) rfl | exact List.mem_of_getElem? (i := 7) rfl | exact List.mem_of_getElem? (i := 8) rfl) (by first | exact List.mem_of_getElem? (i := 0) rfl | exact List.mem_of_getElem? (i := 1) rfl | exact List.mem_of_getElem? (i := 2) rfl | exact List.mem_of_getElem? (i := 3) rfl | exact List.mem_of_getElem? (i := 4) rfl | exact List.mem_of_getElem? (i := 5) rfl | exact List.mem_of_getElem? (i := 6) rfl | exact List.mem_of_getElem? (i := 7) rfl | exact List.mem_of_getElem? (i := 8) rfl))

end Go.Proofs.YtikgnpachlgakaaDoor.Cron
