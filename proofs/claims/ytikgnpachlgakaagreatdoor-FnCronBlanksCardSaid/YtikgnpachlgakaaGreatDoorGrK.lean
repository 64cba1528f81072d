/- Lemmas and walks on the way to the law, merged by wip/tools/pack.py: Parser, CronFill, Union. Conditions: none. -/
import Derived.Test.YtikgnpachlgakaaGreatDoorGrG
import Derived.Defers
import Derived.Recover
import Derived.WalkLawsBesides
import Derived.Lib.Hide
import Derived.Test.YtikgnpachlgakaaGreatDoorGrJ
import Derived.Test.YtikgnpachlgakaaGreatDoorPrB
import Derived.Laws.MakeOwn
import Derived.Test.YtikgnpachlgakaaGreatDoorGrF
import Derived.Outline
namespace Go.Proofs.YtikgnpachlgakaaGreatDoor.Cron
open Go Go.RowKit Go.Proofs.YtikgnpachlgakaaGreatDoor.Text Go.Proofs.YtikgnpachlgakaaGreatDoor.Bits
set_option linter.unusedVariables false
set_option linter.unusedSimpArgs false

theorem newParser_ok (o : Nat) (ho : o < 512) (h : ¬ (0 < o &&& 128 ∧ 0 < o &&& 2)) (w : World) :
    Calls Tryz.prog 25 #[.int .i64 o] w fun e w' => e = .returned (.agg #[.int .i64 o]) ∧ Below w.heap.size w w' := by
  have hand1 : bits .and .i64 (o : Int) 2 = ((o &&& 2 : Nat) : Int) := and_i64 (b := 2) (by omega) (by decide)
  have hand2 : bits .and .i64 (o : Int) 128 = ((o &&& 128 : Nat) : Int) := and_i64 (b := 128) (by omega) (by decide)
  generalize o &&& 2 = a at *
  generalize o &&& 128 = b at *
  by_cases h1 : 0 < b
  · have h2 : ¬ 0 < a := fun h2 => h ⟨h1, h2⟩
    have d1 : decide (0 < (b : Int)) = true := decide_eq_true (by omega)
    have d2 : decide (0 < (a : Int)) = false := decide_eq_false (by omega)
    go_enter Tryz.func25, Tryz.ntmps25
    go_wp2
    exact bodyPost_ret (v := .agg #[.int .i64 o]) (by simp [results, Tryz.results25, go_sem]) rfl ⟨rfl, (Below.refl _ _).alloc (Nat.le_refl _) _⟩
  · have d1 : decide (0 < (b : Int)) = false := decide_eq_false (by omega)
    by_cases h2 : 0 < a
    · have d2 : decide (0 < (a : Int)) = true := decide_eq_true (by omega)
      go_enter Tryz.func25, Tryz.ntmps25
      go_wp2
      exact bodyPost_ret (v := .agg #[.int .i64 o]) (by simp [results, Tryz.results25, go_sem]) rfl ⟨rfl, (Below.refl _ _).alloc (Nat.le_refl _) _⟩
    · have d2 : decide (0 < (a : Int)) = false := decide_eq_false (by omega)
      go_enter Tryz.func25, Tryz.ntmps25
      go_wp2
      exact bodyPost_ret (v := .agg #[.int .i64 o]) (by simp [results, Tryz.results25, go_sem]) rfl ⟨rfl, (Below.refl _ _).alloc (Nat.le_refl _) _⟩

theorem newParser_bad (o : Nat) (ho : o < 512) (h : 0 < o &&& 128 ∧ 0 < o &&& 2) (w : World) :
    Calls Tryz.prog 25 #[.int .i64 o] w fun e w' => (∃ t x, e = .panicked [{ v := .iface t x, recovered := false }]) ∧ Below w.heap.size w w' := by
  have hand1 : bits .and .i64 (o : Int) 2 = ((o &&& 2 : Nat) : Int) := and_i64 (b := 2) (by omega) (by decide)
  have hand2 : bits .and .i64 (o : Int) 128 = ((o &&& 128 : Nat) : Int) := and_i64 (b := 128) (by omega) (by decide)
  generalize o &&& 2 = a at *
  generalize o &&& 128 = b at *
  have d1 : decide (0 < (b : Int)) = true := decide_eq_true (by omega)
  have d2 : decide (0 < (a : Int)) = true := decide_eq_true (by omega)
  go_enter Tryz.func25, Tryz.ntmps25
  go_wp2
  exact ⟨rfl, ⟨_, _, rfl⟩, (Below.refl _ _).alloc (Nat.le_refl _) _⟩

theorem catch_panicking (p : Addr) (x : Bool) (u : TypeId) (pv : Value) (older : List PanicEntry) (w : World) (hc : w.cell? p = some (.bool x)) (hz : w.frozen? p = false) :
    CallsD Tryz.prog 24 #[.pointer (some p)] (.panicking ({ v := .iface u pv, recovered := false } :: older)) w fun e u' w' =>
      e = .returned (.tuple #[]) ∧ u' = .panicking ({ v := .iface u pv, recovered := true } :: older) ∧ w' = w.setCell p (.bool true) := by
  refine callsD_of_wpS Tryz.func24 rfl fun c₀ cs hu => ?_
  apply wpS_seq
  apply wpS_region
  simp [wpOpsS, go_sem, recoverD, hu, Tryz.ntmps24, Exit.thenS]
  refine wpS_cond (t := true) (by simp [Act.eval, Array.replicate]) ?_
  simp only [if_true]
  apply wpS_region
  simp [wpOpsS, go_sem, hc, hz, bodyPostS, results, Tryz.results24]

theorem catch_idle (p : Addr) (w : World) :
    CallsD Tryz.prog 24 #[.pointer (some p)] .returning w fun e u' w' => e = .returned (.tuple #[]) ∧ u' = .returning ∧ w' = w := by
  refine callsD_of_wpS Tryz.func24 rfl fun c₀ cs hu => ?_
  apply wpS_seq
  apply wpS_region
  simp [wpOpsS, go_sem, recoverD, hu, Tryz.ntmps24, Exit.thenS]
  refine wpS_cond (t := false) (by simp [Act.eval, Array.replicate]) ?_
  simp only [Bool.false_eq_true, if_false]
  refine wpS_of_wp (wp_skip ?_)
  cases c₀
  simp_all [bodyPostS, results, Tryz.results24]


theorem parser_ok (o : Nat) (ho : o < 512) (h : ¬ (0 < o &&& 128 ∧ 0 < o &&& 2)) (w : World) :
    Calls Tryz.prog 18 #[.int .i64 o] w fun e w' => e = .returned (.tuple #[.agg #[.int .i64 o], .bool false]) ∧ Below w.heap.size w w' := by
  have hmf : ∀ (fn : Fn) (first cap : Array Value) (w : World), (Instr.makeFunc fn first cap).run Tryz.prog w = .ok (.func fn first cap) w := fun _ _ _ _ => rfl
  go_enter_defers Tryz.func18, Tryz.ntmps18
  go_wp2_with fail
  refine (newParser_ok o ho h _).mono ?_
  rintro e w1 ⟨rfl, hb⟩
  have hB : Below w.heap.size w w1 := (((Below.refl _ _).alloc (Nat.le_refl _) _).alloc (by simp) _).trans (hb.mono (by simp; omega))
  have c1 : w1.cell? ⟨w.heap.size, 0, none⟩ = some (.int .i64 0) := (hb.cell (p := ⟨w.heap.size, 0, none⟩) (by simp; omega)).trans (by simp [go_sem])
  have c2 : w1.cell? ⟨w.heap.size + 1, 0, none⟩ = some (.bool false) := (hb.cell (p := ⟨w.heap.size + 1, 0, none⟩) (by simp)).trans (by simp [go_sem])
  have f1 : w1.frozen? ⟨w.heap.size, 0, none⟩ = false := (hb.frozen (p := ⟨w.heap.size, 0, none⟩) (by simp; omega)).trans (by simp [go_sem])
  have f2 : w1.frozen? ⟨w.heap.size + 1, 0, none⟩ = false := (hb.frozen (p := ⟨w.heap.size + 1, 0, none⟩) (by simp)).trans (by simp [go_sem])
  have hz1 : w.heap.size + 1 < w1.heap.size := by have := hb.size; simp at this; omega
  clear hb
  go_wp2_with fail
  refine leaves_cons (f := 24) (args := #[.pointer (some ⟨w.heap.size + 1, 0, none⟩)]) (by simp) (by simp [go_sem]) ?_
  refine (catch_idle ⟨w.heap.size + 1, 0, none⟩ _).mono ?_
  rintro e u' w'' ⟨rfl, rfl, rfl⟩
  have hB2 := Lib.hid ((hB.setCell (p := ⟨w.heap.size, 0, none⟩) (Nat.le_refl _) (.int .i64 o)).setCell (p := ⟨w.heap.size + 1, 0, none⟩) (by simp) (.bool false))
  simp [Leaves, settle, results, Tryz.results18, go_sem, c1, c2, f1, f2]
  exact hB2.out

theorem parser_bad (o : Nat) (ho : o < 512) (h : 0 < o &&& 128 ∧ 0 < o &&& 2) (w : World) :
    Calls Tryz.prog 18 #[.int .i64 o] w fun e w' => e = .returned (.tuple #[.agg #[.int .i64 0], .bool true]) ∧ Below w.heap.size w w' := by
  have hmf : ∀ (fn : Fn) (first cap : Array Value) (w : World), (Instr.makeFunc fn first cap).run Tryz.prog w = .ok (.func fn first cap) w := fun _ _ _ _ => rfl
  go_enter_defers Tryz.func18, Tryz.ntmps18
  go_wp2_with fail
  refine (newParser_bad o ho h _).mono ?_
  rintro e w1 ⟨⟨t, x, rfl⟩, hb⟩
  have hB : Below w.heap.size w w1 := (((Below.refl _ _).alloc (Nat.le_refl _) _).alloc (by simp) _).trans (hb.mono (by simp; omega))
  have c1 : w1.cell? ⟨w.heap.size, 0, none⟩ = some (.int .i64 0) := (hb.cell (p := ⟨w.heap.size, 0, none⟩) (by simp; omega)).trans (by simp [go_sem])
  have c2 : w1.cell? ⟨w.heap.size + 1, 0, none⟩ = some (.bool false) := (hb.cell (p := ⟨w.heap.size + 1, 0, none⟩) (by simp)).trans (by simp [go_sem])
  have f1 : w1.frozen? ⟨w.heap.size, 0, none⟩ = false := (hb.frozen (p := ⟨w.heap.size, 0, none⟩) (by simp; omega)).trans (by simp [go_sem])
  have f2 : w1.frozen? ⟨w.heap.size + 1, 0, none⟩ = false := (hb.frozen (p := ⟨w.heap.size + 1, 0, none⟩) (by simp)).trans (by simp [go_sem])
  have hz1 : w.heap.size + 1 < w1.heap.size := by have := hb.size; simp at this; omega
  clear hb
  go_wp2_with fail
  refine leaves_cons (f := 24) (args := #[.pointer (some ⟨w.heap.size + 1, 0, none⟩)]) (by simp) (by simp [go_sem]) ?_
  refine (catch_panicking ⟨w.heap.size + 1, 0, none⟩ false t x [] _ c2 f2).mono ?_
  rintro e u' w'' ⟨rfl, rfl, rfl⟩
  have hB2 := Lib.hid (hB.setCell (p := ⟨w.heap.size + 1, 0, none⟩) (by simp) (.bool true))
  simp [Leaves, settle, results, Tryz.results18, go_sem, c1, c2, f1, f2]
  exact hB2.out

/-- does a parser of these options panic -/
def twoB (o : Nat) : Bool := decide (0 < o &&& 128) && decide (0 < o &&& 2)

end Go.Proofs.YtikgnpachlgakaaGreatDoor.Cron

namespace Go.Proofs.YtikgnpachlgakaaGreatDoor.Cron
open Go Go.RowKit Go.Proofs.YtikgnpachlgakaaGreatDoor.Text Go.Proofs.YtikgnpachlgakaaGreatDoor.Bits Go.Proofs.YtikgnpachlgakaaGreatDoorW.PrintWords Go.Proofs.YtikgnpachlgakaaGreatDoorW.PrintLast Go.Proofs.YtikgnpachlgakaaGreatDoorW.PrintMore Go.Proofs.YtikgnpachlgakaaGreatDoor.Pr
set_option linter.unusedVariables false
set_option linter.unusedSimpArgs false

theorem two_f : ∀ o : Fin 512, spec_CronTwoOptional.f (o.val : Int) = some (twoB o.val) := by decide +kernel
def mI (m : Nat) : Int := if m = 6 then -1 else (m : Int)
theorem miss_f : ∀ o : Fin 512, spec_CronMayMiss.f (o.val : Int) = some (mI (missN o.val)) := by decide +kernel
theorem default_f : ∀ k : Fin 6, spec_CronDefault.f (k.val : Int) = some (defaultsL.getD k.val ⟨#[]⟩) := by decide +kernel

/-- the cells of a slice of texts -/
def SliceOf (w : World) (A : Option Addr) (fs : List ByteArray) : Prop := ∀ (i : Nat) (x : ByteArray), fs[i]? = some x → ∃ g, A = some ⟨g, 0, none⟩ ∧ g < w.heap.size ∧ w.cell? ⟨g, i, none⟩ = some (.string x)

theorem SliceOf.below {w w' : World} {A : Option Addr} {fs : List ByteArray} (h : SliceOf w A fs) (hb : Below w.heap.size w w') : SliceOf w' A fs := fun i x hx => by
  obtain ⟨g, h1, h2, h3⟩ := h i x hx
  exact ⟨g, h1, Nat.lt_of_lt_of_le h2 hb.size, (hb.cell (p := ⟨g, i, none⟩) h2).trans h3⟩

def FillAns (w : World) (r : Option (List ByteArray)) (e : Ending) (w' : World) : Prop :=
  (match r with
    | some l => ∃ g, e = .returned (.tuple #[.slice (some ⟨g, 0, none⟩) 6 6, .bool true]) ∧ w.heap.size ≤ g ∧ Texts w' g 6 6 l
    | none => e = .returned (.tuple #[.slice none 0 0, .bool false])) ∧ Below w.heap.size w w'

theorem takesL_at (o m k : Nat) (hk : k < 6) : ∃ h : k < (takesL o m).length, (takesL o m)[k] = (takeB o k && !decide (k = m)) := by
  refine ⟨by simpa [takesL] using hk, ?_⟩
  have : k = 0 ∨ k = 1 ∨ k = 2 ∨ k = 3 ∨ k = 4 ∨ k = 5 := by omega
  rcases this with rfl | rfl | rfl | rfl | rfl | rfl <;> rfl

theorem cnt_take (bs : List Bool) (k : Nat) (h : k < bs.length) : cnt (bs.take (k + 1)) = cnt (bs.take k) + (if bs[k] = true then 1 else 0) := by
  unfold cnt
  rw [List.take_add_one, List.getElem?_eq_getElem h]
  simp only [Option.toList_some, List.filter_append, List.length_append]
  cases bs[k] <;> rfl

theorem cnt_take_le (bs : List Bool) (k : Nat) : cnt (bs.take k) ≤ cnt bs := List.Sublist.length_le (List.Sublist.filter _ (List.take_sublist k bs))

def rowF (F : List ByteArray) (k : Nat) : List ByteArray := F.take k ++ List.replicate (6 - k) ⟨#[]⟩

theorem rowF_set {F : List ByteArray} {k : Nat} (x y : ByteArray) (hk : k < 6) (hF : F.length = 6) (h : F[k]? = some x) : ((rowF F k).set k y).set k x = rowF F (k + 1) := by
  unfold rowF
  rw [List.set_set, List.take_add_one, h, Option.toList_some]
  have ht : (F.take k).length = k := by rw [List.length_take]; omega
  rw [List.set_append_right _ _ (by omega), ht, Nat.sub_self, show 6 - k = (6 - (k + 1)) + 1 by omega, List.replicate_succ, List.set_cons_zero, List.append_assoc, List.singleton_append]
theorem rowF_set1 {F : List ByteArray} {k : Nat} (x : ByteArray) (hk : k < 6) (hF : F.length = 6) (h : F[k]? = some x) : (rowF F k).set k x = rowF F (k + 1) := by
  have := rowF_set x x hk hF h
  rwa [List.set_set] at this
theorem rowF_len {F : List ByteArray} {k : Nat} (hk : k ≤ 6) (hF : F.length = 6) : (rowF F k).length = 6 := by
  unfold rowF
  rw [List.length_append, List.length_take, List.length_replicate]
  omega

set_option maxRecDepth 100000 in
theorem cnt_all : ∀ o : Fin 512, twoB o.val = true ∨ (cnt (takesL o.val 6) = takenC o.val 6 ∧ (missN o.val ≠ 6 → cnt (takesL o.val (missN o.val)) + 1 = takenC o.val 6)) := by decide +kernel

theorem made6 (F : List ByteArray) : ((rowF F 0).map Value.string).toArray = madeCells #[.string ⟨#[]⟩] 6 := by
  unfold rowF
  rw [List.take_zero]
  kernel_rfl

theorem info_str6 : (Tryz.prog.info? 9).map (fun i => (i.zero, i.size, i.bytes)) = some (some (.string ⟨#[]⟩), 1, 16) := by kernel_rfl

set_option maxRecDepth 100000 in
set_option maxHeartbeats 4000000 in
theorem cronFill_any (o : Nat) (ho : o < 512) (h2 : twoB o = false) (A : Option Addr) (fs : List ByteArray) (c : Nat) (hfl : fs.length ≤ 4294967296) (w : World) (hS : SliceOf w A fs) :
    Calls Tryz.prog 62 #[.slice A fs.length c, .int .i64 o] w (FillAns w (fillS fs o)) := by
  have HT2 := Lib.hid (fun w' => spec_CronTwoOptional.calls o false w' ((two_f ⟨o, ho⟩).trans (by rw [h2])))
  have HMM := Lib.hid (fun w' => spec_CronMayMiss.calls o (mI (missN o)) w' (miss_f ⟨o, ho⟩))
  have HTK := Lib.hid (fun k hk w' => takes_any o ho k hk w')
  have HSL := Lib.hid hS
  have hm6 : missN o = 0 ∨ missN o = 5 ∨ missN o = 6 := by unfold missN; (repeat' split) <;> omega
  have hcnt : cnt (takesL o 6) = takenC o 6 ∧ (missN o ≠ 6 → cnt (takesL o (missN o)) + 1 = takenC o 6) := by
    have := cnt_all ⟨o, ho⟩
    rcases this with h | h
    · rw [h2] at h; cases h
    · exact h
  have HCNT := Lib.hid hcnt
  clear hS hcnt
  go_enter Tryz.func62, Tryz.ntmps62
  go_wp2_with fail
  refine (HT2.out _).mono ?_
  rintro e w1 ⟨rfl, hb1⟩
  have HB1 := Lib.hid (drawn_below hb1)
  clear hb1
  go_wp2_with fail
  go_loopw [6, 14] (fun v6 v14 wr => ∃ k : Nat, v14 = .int .i64 k ∧ k ≤ 6 ∧ v6 = .int .i64 (takenC o k : Nat) ∧ Below w.heap.size w wr) (fun _ v14 _ => 6 - (intOf v14).toNat)
  case atStart => exact ⟨0, rfl, by omega, rfl, HB1.out⟩
  case round =>
    obtain ⟨k, rfl, hk, rfl, hbr⟩ := hrel
    have hle := takenC_le o k
    by_cases h6 : k < 6
    · have HS : Hid (takenC o (k + 1) = takenC o k + (if takeB o k then 1 else 0)) := Lib.hid rfl
      have HC := Lib.hid (HTK.out k h6)
      generalize takenC o k = n at *
      generalize takeB o k = b at *
      cases b with
      | true =>
        go_wp2_with fail
        refine (HC.out _).mono ?_
        rintro e w2 ⟨rfl, hb2⟩
        have hB2 := below_of_le hbr hb2
        go_wp2_with fail
        go_roundw
        case rel => exact ⟨k + 1, by go_num, by omega, by rw [HS.out]; first | rfl | go_num, hB2⟩
        case measure => simp [intOf]; omega
      | false =>
        go_wp2_with fail
        refine (HC.out _).mono ?_
        rintro e w2 ⟨rfl, hb2⟩
        have hB2 := below_of_le hbr hb2
        go_wp2_with fail
        go_roundw
        case rel => exact ⟨k + 1, by go_num, by omega, by rw [HS.out]; first | rfl | go_num, hB2⟩
        case measure => simp [intOf]; omega
    · have hk6 : k = 6 := by omega
      subst hk6
      clear h6 hk HT2 HB1
      have HBR := Lib.hid hbr
      clear hbr
      go_wp2_with fail
      refine (HMM.out _).mono ?_
      rintro e w2 ⟨rfl, hb2⟩
      have HB2 := Lib.hid (below_of_le HBR.out (drawn_below hb2))
      clear hb2 HBR HMM
      have hfs : Hid (fillS fs o = if fs.length = takenC o 6 then some (fillB (takesL o 6) defaultsL fs) else if missN o = 6 ∨ fs.length + 1 ≠ takenC o 6 then none else some (fillB (takesL o (missN o)) defaultsL fs)) := Lib.hid rfl
      generalize takenC o 6 = T at *
      generalize missN o = M at *
      by_cases hbad : fs.length ≠ T ∧ (M = 6 ∨ fs.length + 1 ≠ T)
      · have HX : Hid (fillS fs o = none) := Lib.hid (by rw [hfs.out, if_neg hbad.1, if_pos hbad.2])
        have q1 : ((fs.length : Int) == (T : Int)) = false := by
          rw [beq_eq_false_iff_ne]
          have := hbad.1
          omega
        by_cases hM : M = 6
        · have q2 : mI M = -1 := by unfold mI; rw [if_pos hM]
          rw [q2]
          clear hbad q2
          go_wp2_with fail
          go_ret2
          rw [HX.out]
          exact ⟨rfl, HB2.out⟩
        · have q2 : mI M = M := by unfold mI; rw [if_neg hM]
          rw [q2]
          have q3 : ((fs.length : Int) != (T : Int) - 1) = true := by
            rw [bne_iff_ne]
            have := hbad.2
            omega
          clear hbad q2
          go_wp2_with fail
          go_ret2
          rw [HX.out]
          exact ⟨rfl, HB2.out⟩
      · go_upto_if 28 with fail
        go_cut [8] (fun v8 wc => ∃ m : Nat, v8 = .int .i64 (mI m) ∧ Hid (fillS fs o = some (fillB (takesL o m) defaultsL fs)) ∧ m ≤ 6 ∧ cnt (takesL o m) ≤ fs.length ∧ w2 = wc)
        case first =>
          by_cases hA : fs.length = T
          · have HX : Hid (fillS fs o = some (fillB (takesL o 6) defaultsL fs)) := Lib.hid (by rw [hfs.out, if_pos hA])
            have hc6 : cnt (takesL o 6) ≤ fs.length := by have := HCNT.out.1; omega
            have q1 : ((fs.length : Int) == (T : Int)) = true := by
              rw [beq_iff_eq]
              omega
            clear hA hbad
            go_wp2_with fail
            go_meet
            exact ⟨6, rfl, HX, by omega, hc6, rfl⟩
          · have hM : M ≠ 6 := fun h => hbad ⟨hA, .inl h⟩
            have hlen : fs.length + 1 = T := by
              by_cases h : fs.length + 1 = T
              · exact h
              · exact absurd ⟨hA, .inr h⟩ hbad
            have HX : Hid (fillS fs o = some (fillB (takesL o M) defaultsL fs)) := Lib.hid (by rw [hfs.out, if_neg hA, if_neg (fun h => by rcases h with h | h; exact hM h; exact h hlen)])
            have hcM : cnt (takesL o M) ≤ fs.length := by have := HCNT.out.2 hM; omega
            have q1 : ((fs.length : Int) == (T : Int)) = false := by
              rw [beq_eq_false_iff_ne]
              omega
            have q2 : mI M = M := by unfold mI; rw [if_neg hM]
            have q3 : ((fs.length : Int) != (T : Int) - 1) = false := by
              rw [bne_eq_false_iff_eq]
              omega
            have HM6 : Hid (M ≤ 6) := Lib.hid (by omega)
            have HQ2 := Lib.hid q2
            rw [q2]
            clear hA hbad hM hlen q2
            go_wp2_with fail
            go_meet
            exact ⟨M, by rw [HQ2.out], HX, HM6.out, hcM, rfl⟩
        case rest =>
          obtain ⟨m, rfl, HF, hm, hcm, rfl⟩ := hcut
          obtain ⟨wo, rfl⟩ : ∃ wo : World, wo = w2 := ⟨_, rfl⟩
          clear hfs hbad HCNT hm6
          obtain ⟨i0, hi0, hz0, hz1, hz2⟩ := info_parts info_str6
          have hmk := fun w' : World => run_make w' 22 9 i0 (.string ⟨#[]⟩) Tryz.underlying22 hi0 hz0 .i64 .i64 6 6 (by omega) (by omega) (by rw [hz2]; omega) (by omega)
          rw [hz1] at hmk
          have hFl : (fillB (takesL o m) defaultsL fs).length = 6 := fillB_len _ _ _ rfl
          have hFa := fun k (h : k < (takesL o m).length) => fillB_at (takesL o m) defaultsL fs k h rfl hcm
          have HFL := Lib.hid hFl
          have HFA := Lib.hid hFa
          have HSO := Lib.hid (HSL.out.below HB2.out)
          clear hFl hFa HSL
          generalize fillB (takesL o m) defaultsL fs = F at *
          go_wp2_with fail
          have hrow0 : Hid ((wo.alloc (.cells (madeCells #[.string ⟨#[]⟩] 6) 9)).heap[wo.heap.size]? = some (.cells ((rowF F 0).map Value.string).toArray 9 (0, 0))) := Lib.hid (by
            have e : ((rowF F 0).map Value.string).toArray = madeCells #[.string ⟨#[]⟩] 6 := made6 F
            rw [e]
            exact heap_alloc_new wo _)
          have hb0 : Below wo.heap.size wo (wo.alloc (.cells (madeCells #[.string ⟨#[]⟩] 6) 9)) := (Below.refl _ _).alloc (Nat.le_refl _) _
          go_loopw [10, 41] (fun v10 v41 wr => ∃ k : Nat, v41 = .int .i64 k ∧ k ≤ 6 ∧ v10 = .int .i64 (cnt ((takesL o m).take k) : Nat) ∧ Hid (wr.heap[wo.heap.size]? = some (.cells ((rowF F k).map Value.string).toArray 9 (0, 0))) ∧ Below wo.heap.size wo wr) (fun _ v41 _ => 6 - (intOf v41).toNat)
          case atStart => exact ⟨0, rfl, by omega, rfl, hrow0, hb0⟩
          case round =>
            obtain ⟨k, rfl, hk, rfl, HROW, hbr⟩ := hrel
            clear hrow0 hb0
            by_cases h6 : k < 6
            · obtain ⟨hkl, hke⟩ := takesL_at o m k h6
              have hct := cnt_take (takesL o m) k hkl
              have hcl := cnt_take_le (takesL o m) k
              have hcl1 := cnt_take_le (takesL o m) (k + 1)
              have hFk := HFA.out k hkl
              have hlen6 := rowF_len (F := F) hk HFL.out
              have hdk : defaultsL[k]? = some (defaultsL.getD k ⟨#[]⟩) := by
                have : k < defaultsL.length := h6
                simp [List.getD, this]
              have HD := Lib.hid (fun w' => spec_CronDefault.calls k (defaultsL.getD k ⟨#[]⟩) w' (default_f ⟨k, h6⟩))
              have HC := Lib.hid (HTK.out k h6)
              have HDK := Lib.hid hdk
              have hcm2 := hcm
              rw [hke] at hct hFk
              have HCT := Lib.hid hct
              have HFK := Lib.hid hFk
              clear hct hFk hke hdk
              have q1 : ((k : Int) != mI m) = !decide (k = m) := by
                unfold mI
                by_cases hm6 : m = 6
                · rw [if_pos hm6, decide_eq_false (by omega)]
                  simp
                  try omega
                · rw [if_neg hm6]
                  by_cases hkm : k = m
                  · rw [decide_eq_true hkm]; simp [hkm]
                  · rw [decide_eq_false hkm]
                    simp
                    try omega
              generalize defaultsL.getD k ⟨#[]⟩ = d at *
              generalize takeB o k = b at *
              generalize hnx : cnt ((takesL o m).take k) = nx at *
              have HNX := Lib.hid hnx
              clear hnx
              go_wp2_with fail
              refine (HD.out _).mono ?_
              rintro e w3 ⟨rfl, hb3⟩
              have hB3 := drawn_below hb3
              have hgr : wo.heap.size < wr.heap.size := (Array.getElem?_eq_some_iff.1 HROW.out).1
              have hrow3 := (hB3.block _ hgr).trans HROW.out
              have hbo3 := below_of_le hbr hB3
              have hcd : ∃ v, w3.cell? ⟨wo.heap.size, k, none⟩ = some v := by
                rw [cell_of_row w3 wo.heap.size k _ _ _ hrow3]
                exact ⟨_, Array.getElem?_eq_getElem (by simp [hlen6]; omega)⟩
              obtain ⟨v0, hcd⟩ := hcd
              have hfd : w3.frozen? ⟨wo.heap.size, k, none⟩ = false := frozen_of_row _ _ _ _ _ hrow3
              have HROW4 := Lib.hid (row_put (i := k) d hrow3)
              have HB4 := Lib.hid (hbo3.setCell (p := ⟨wo.heap.size, k, none⟩) (Nat.le_refl _) (.string d))
              clear hb3 hB3 hrow3 hbo3 hbr HROW HD
              go_wp2_with fail
              refine (HC.out _).mono ?_
              rintro e w5 ⟨rfl, hb5⟩
              have hg4 := (Array.getElem?_eq_some_iff.1 HROW4.out).1
              have HROW5 := Lib.hid ((hb5.block _ hg4).trans HROW4.out)
              have HB5 := Lib.hid (below_of_le HB4.out hb5)
              clear hb5 hg4 HROW4 HB4 HC hcd hfd
              by_cases hon : (b && !decide (k = m)) = true
              · have hb : b = true := by
                  cases b
                  · simp at hon
                  · rfl
                subst hb
                have hkm : decide (k = m) = false := by simpa using hon
                rw [hkm] at q1
                have hq2 : ((k : Int) != mI m) = true := q1
                have hx : ∃ y, fs[nx]? = some y := by
                  have h1 := HCT.out
                  rw [if_pos hon] at h1
                  exact ⟨_, List.getElem?_eq_getElem (by omega)⟩
                obtain ⟨y, hy⟩ := hx
                have hFy : F[k]? = some y := by
                  have := HFK.out
                  rw [if_pos hon] at this
                  rw [this]
                  exact hy
                obtain ⟨ga, rfl, hga, hca⟩ := HSO.out nx y hy
                have hnl : nx < fs.length := (List.getElem?_eq_some_iff.1 hy).1
                have hca5 : w5.cell? ⟨ga, nx, none⟩ = some (.string y) := (HB5.out.cell (p := ⟨ga, nx, none⟩) hga).trans hca
                have hcd5 : w5.cell? ⟨wo.heap.size, k, none⟩ = some (.string d) := by
                  rw [cell_of_row w5 wo.heap.size k _ _ _ HROW5.out]
                  simp [hlen6, h6]
                have hfd5 : w5.frozen? ⟨wo.heap.size, k, none⟩ = false := frozen_of_row _ _ _ _ _ HROW5.out
                have HN : Hid (cnt ((takesL o m).take (k + 1)) = nx + 1) := Lib.hid (by rw [HCT.out, if_pos hon])
                have HR := Lib.hid (row_put (i := k) y HROW5.out)
                have HRS := Lib.hid (rowF_set y d h6 HFL.out hFy)
                clear hkm hon q1 hy hFy hca hcl hcl1
                go_wp2_with fail
                go_roundw
                case rel => exact ⟨k + 1, by go_num, by omega, by rw [HN.out]; go_num, Lib.hid (by rw [← HRS.out]; exact HR.out), HB5.out.setCell (p := ⟨wo.heap.size, k, none⟩) (Nat.le_refl _) _⟩
                case measure => simp [intOf]; omega
              · have hFd : F[k]? = some d := by
                  have := HFK.out
                  rw [if_neg hon] at this
                  rw [this]
                  exact HDK.out
                have HN : Hid (cnt ((takesL o m).take (k + 1)) = nx) := Lib.hid (by rw [HCT.out, if_neg hon]; rfl)
                have HRS := Lib.hid (rowF_set1 d h6 HFL.out hFd)
                cases b with
                | false =>
                  clear hon hFd q1 hcl hcl1
                  go_wp2_with fail
                  go_roundw
                  case rel => exact ⟨k + 1, by go_num, by omega, by rw [HN.out], Lib.hid (by rw [← HRS.out]; exact HROW5.out), HB5.out⟩
                  case measure => simp [intOf]; omega
                | true =>
                  have hkm : decide (k = m) = true := by
                    cases h : decide (k = m)
                    · rw [h] at hon; exact absurd rfl hon
                    · rfl
                  rw [hkm] at q1
                  have hq2 : ((k : Int) != mI m) = false := q1
                  clear hon hFd q1 hkm hcl hcl1
                  go_wp2_with fail
                  go_roundw
                  case rel => exact ⟨k + 1, by go_num, by omega, by rw [HN.out], Lib.hid (by rw [← HRS.out]; exact HROW5.out), HB5.out⟩
                  case measure => simp [intOf]; omega
            · have hk6 : k = 6 := by omega
              subst hk6
              have hend : rowF F 6 = F := by
                unfold rowF
                rw [List.take_of_length_le (by rw [HFL.out]; exact Nat.le_refl _)]
                simp
              have hrowF := HROW.out
              rw [hend] at hrowF
              have HT : Hid (Texts wr wo.heap.size 6 6 F) := Lib.hid ⟨HFL.out.symm, Nat.le_refl _, (Array.getElem?_eq_some_iff.1 hrowF).1, fun j x hx => by
                rw [cell_of_row wr wo.heap.size j _ _ _ hrowF]
                simp [hx]⟩
              clear hend hrowF h6 hk
              go_wp2_with fail
              go_ret2
              rw [HF.out]
              exact ⟨⟨wo.heap.size, rfl, HB2.out.size, HT.out⟩, below_of_le HB2.out hbr⟩
end Go.Proofs.YtikgnpachlgakaaGreatDoor.Cron

namespace Go.Proofs.YtikgnpachlgakaaGreatDoor.Cron
open Go Go.RowKit Go.Proofs.YtikgnpachlgakaaGreatDoor.Text Go.Proofs.YtikgnpachlgakaaGreatDoor.Bits
set_option linter.unusedVariables false

theorem union_start (pa pb : Nat → Bool) : (fun j => if j < 0 then pa j || pb j else pa j) = pa := by
  funext j
  simp

theorem union_next (pa pb : Nat → Bool) (n : Nat) : (fun i => if i = n then (pa n || pb n) else (if i < n then pa i || pb i else pa i)) = (fun i => if i < n + 1 then pa i || pb i else pa i) := by
  funext i
  by_cases h : i = n
  · subst h
    rw [if_pos rfl, if_pos (by omega)]
  · rw [if_neg h]
    by_cases h2 : i < n
    · rw [if_pos h2, if_pos (by omega)]
    · rw [if_neg h2, if_neg (by omega)]

theorem union_end (sa : Bool) (pa pb : Nat → Bool) (n : Nat) (h : 63 ≤ n) : setCells sa (fun j => if j < n then pa j || pb j else pa j) = setCells sa (fun j => pa j || pb j) :=
  setCells_ext fun j hj => by rw [if_pos (by omega)]

theorem results_one {fn : Func} {p : Tmp} (h : fn.results = #[.cell p 53]) (tmps : Array Value) (w : World) (g : Nat) (st : Bool) (q : Nat → Bool)
    (hp : tmps.getD p undef = .pointer (some ⟨g, 0, none⟩)) (hs : IsSet w g st q) :
    (results fn tmps).run Tryz.prog w = .ok (.agg (setCells st q)) w := by
  have hp' : tmps[p]?.getD undef = .pointer (some ⟨g, 0, none⟩) := by simpa using hp
  simp only [results, h]
  simp [asAddr, hp', run_load_set w g st q hs]

set_option maxRecDepth 100000 in
set_option maxHeartbeats 1000000 in
theorem cronUnion_any (sa sb : Bool) (pa pb : Nat → Bool) (w : World) :
    Calls Tryz.prog 87 #[.agg (setCells sa pa), .agg (setCells sb pb)] w fun e w' => e = .returned (.agg (setCells (sa || sb) (fun j => pa j || pb j))) ∧ Below w.heap.size w w' := by
  have hidx := run_index_in pb
  have hboxa := run_box_set sa pa
  have hboxb := run_box_set sb pb
  have hal := run_alloc_set
  go_enter Tryz.func87, Tryz.ntmps87
  go_upto_region 1 with fail
  generalize hW : World.alloc (World.alloc (World.alloc w _) _) _ = wL
  have HA : Hid (IsSet wL w.heap.size sa pa) := Lib.hid (by
    rw [← hW]
    exact (isSet_new w sa pa).below (((Below.refl _ _).alloc (Nat.le_refl _) _).alloc (by simp) _))
  have HB : Hid (IsSet wL (w.heap.size + 1) sb pb) := Lib.hid (by
    rw [← hW]
    have := isSet_new (w.alloc (.cells (setCells sa pa) 53)) sb pb
    rw [show (w.alloc (.cells (setCells sa pa) 53)).heap.size = w.heap.size + 1 by simp] at this
    exact this.below ((Below.refl _ _).alloc (by simp) _))
  have HR : Hid (IsSet wL (w.heap.size + 2) false noSet) := Lib.hid (by
    rw [← hW]
    have := isSet_lit ((w.alloc (.cells (setCells sa pa) 53)).alloc (.cells (setCells sb pb) 53))
    rw [show ((w.alloc (.cells (setCells sa pa) 53)).alloc (.cells (setCells sb pb) 53)).heap.size = w.heap.size + 2 by simp] at this
    exact this)
  have HW : Hid (Below w.heap.size w wL) := Lib.hid (by
    rw [← hW]
    exact (((Below.refl _ _).alloc (Nat.le_refl _) _).alloc (by simp) _).alloc (by simp; omega) _)
  clear hW
  go_wp2_with (refine wpList_load_in rfl _ rfl (w.heap.size + 1) sb pb rfl HB.out ?_)
  go_loopw [9] (fun v9 wr => ∃ n : Nat, v9 = .int .i64 n ∧ n ≤ 63 ∧ Hid (IsSet wr w.heap.size sa (fun j => if j < n then pa j || pb j else pa j)) ∧ Hid (IsSet wr (w.heap.size + 1) sb pb) ∧ Hid (IsSet wr (w.heap.size + 2) false noSet) ∧ Below w.heap.size w wr) (fun v9 _ => 63 - (intOf v9).toNat)
  case atStart => exact ⟨0, rfl, by omega, Lib.hid (by rw [union_start]; exact HA.out), HB, HR, HW.out⟩
  case round =>
    obtain ⟨n, rfl, hn, HA', HB', HR', hbr⟩ := hrel
    clear HA HB HR HW hboxa hboxb hal
    by_cases h : n < 63
    · have hi := hidx n h
      have hc : wr.cell? ⟨w.heap.size, 1 + n, none⟩ = some (.bool (pa n)) := by
        have := HA'.out.cellAt n h
        rw [if_neg (by omega)] at this
        rw [Nat.add_comm]; exact this
      have hf : wr.frozen? ⟨w.heap.size, 1 + n, none⟩ = false := by rw [Nat.add_comm]; exact HA'.out.free (n + 1)
      have HN := Lib.hid (HA'.out.put n h (pa n || pb n))
      have hunion := union_next pa pb n
      have hne1 : w.heap.size + 1 ≠ w.heap.size := by omega
      have hne2 : w.heap.size + 2 ≠ w.heap.size := by omega
      cases hp : pa n
      all_goals
        rw [hp] at hc
        go_wp2_with fail
        go_roundw
        case rel =>
          refine ⟨n + 1, by go_num, by omega, Lib.hid ?_, Lib.hid (HB'.out.other hne1 _), Lib.hid (HR'.out.other hne2 _), hbr.setCell (Nat.le_refl _) _⟩
          have h1 := HN.out
          rw [hunion, Nat.add_comm n 1, hp] at h1
          rw [Nat.add_comm n 1]
          first | exact h1 | (rw [Nat.add_comm 1 n] at *; simpa using h1)
        case measure => simp [intOf]; omega
    · have he : IsSet wr w.heap.size sa (fun j => pa j || pb j) := by
        have := HA'.out
        unfold IsSet at this ⊢
        rw [union_end sa pa pb n (by omega)] at this
        exact this
      have hca := he.cell0
      have hfa := he.free 0
      have hcb := HB'.out.cell0
      have hne2 : w.heap.size + 2 ≠ w.heap.size := by omega
      cases sa
      · have HL := Lib.hid (he.putStar (false || sb))
        have HR2 := Lib.hid (HR'.out.other (a := ⟨w.heap.size, 0, none⟩) hne2 (.bool (false || sb)))
        have HS2 := Lib.hid (HR2.out.store (false || sb) (fun j => pa j || pb j))
        have hb2 : Below w.heap.size w ((wr.setCell ⟨w.heap.size, 0, none⟩ (.bool (false || sb))).setRow (w.heap.size + 2) (setCells (false || sb) (fun j => pa j || pb j))) := below_setRow (hbr.setCell (Nat.le_refl _) _) (by omega) _
        clear he hbr HA' HB'
        go_wp2_with (first | (refine wpList_load_set rfl _ rfl w.heap.size _ (fun j => pa j || pb j) rfl HL.out ?_) | (refine wpList_store_set rfl _ _ rfl (w.heap.size + 2) _ (fun j => pa j || pb j) rfl rfl _ _ HR2.out ?_))
        refine bodyPost_ret (v := .agg (setCells (false || sb) (fun j => pa j || pb j))) ?_ rfl ?_
        · exact results_one (fn := Tryz.f87) (p := 4) rfl _ _ (w.heap.size + 2) _ _ rfl HS2.out
        exact ⟨rfl, hb2⟩
      · have HL := Lib.hid (he.putStar (true || sb))
        have HR2 := Lib.hid (HR'.out.other (a := ⟨w.heap.size, 0, none⟩) hne2 (.bool (true || sb)))
        have HS2 := Lib.hid (HR2.out.store (true || sb) (fun j => pa j || pb j))
        have hb2 : Below w.heap.size w ((wr.setCell ⟨w.heap.size, 0, none⟩ (.bool (true || sb))).setRow (w.heap.size + 2) (setCells (true || sb) (fun j => pa j || pb j))) := below_setRow (hbr.setCell (Nat.le_refl _) _) (by omega) _
        clear he hbr HA' HB'
        go_wp2_with (first | (refine wpList_load_set rfl _ rfl w.heap.size _ (fun j => pa j || pb j) rfl HL.out ?_) | (refine wpList_store_set rfl _ _ rfl (w.heap.size + 2) _ (fun j => pa j || pb j) rfl rfl _ _ HR2.out ?_))
        refine bodyPost_ret (v := .agg (setCells (true || sb) (fun j => pa j || pb j))) ?_ rfl ?_
        · exact results_one (fn := Tryz.f87) (p := 4) rfl _ _ (w.heap.size + 2) _ _ rfl HS2.out
        exact ⟨rfl, hb2⟩
end Go.Proofs.YtikgnpachlgakaaGreatDoor.Cron
