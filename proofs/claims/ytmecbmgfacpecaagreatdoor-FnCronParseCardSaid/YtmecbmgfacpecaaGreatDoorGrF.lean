/- Lemmas and walks on the way to the law, merged by wip/tools/pack.py: Parser, CronFill, Union, FieldMid, CronField, SpecValue. Conditions: none. -/
import Derived.Test.YtmecbmgfacpecaaGreatDoorGrD
import Derived.Defers
import Derived.Recover
import Derived.WalkLawsBesides
import Derived.Lib.Hide
import Derived.Test.YtmecbmgfacpecaaGreatDoorGrE
import Derived.Test.YtmecbmgfacpecaaGreatDoorPrA
import Derived.Test.YtmecbmgfacpecaaGreatDoorPrB
import Derived.Laws.MakeOwn
import Derived.Test.YtmecbmgfacpecaaGreatDoorGrC
import Derived.Outline
import Derived.Test.YtmecbmgfacpecaaGreatDoorGrB
import Derived.Stop.FmtQuoteTie
namespace Go.Proofs.YtmecbmgfacpecaaGreatDoor.Cron
open Go Go.RowKit Go.Proofs.YtmecbmgfacpecaaGreatDoor.Text Go.Proofs.YtmecbmgfacpecaaGreatDoor.Bits
set_option linter.unusedVariables false
set_option linter.unusedSimpArgs false
theorem newParser_ok (o : Nat) (ho : o < 512) (h : ¬ (0 < o &&& 128 ∧ 0 < o &&& 2)) (w : World) :
  Calls Tryz.prog 95 #[.int .i64 o] w fun e w' => e = .returned (.agg #[.int .i64 o]) ∧ Below w.heap.size w w' := by
 have hand1 : bits .and .i64 (o : Int) 2 = ((o &&& 2 : Nat) : Int) := and_i64 (b := 2) (by omega) (by decide);have hand2 : bits .and .i64 (o : Int) 128 = ((o &&& 128 : Nat) : Int) := and_i64 (b := 128) (by omega) (by decide);generalize o &&& 2 = a at *;generalize o &&& 128 = b at *
 by_cases h1 : 0 < b
 ·have h2 : ¬ 0 < a := fun h2 => h ⟨h1, h2⟩
  have d1 : decide (0 < (b : Int)) = true := decide_eq_true (by omega);have d2 : decide (0 < (a : Int)) = false := decide_eq_false (by omega)
  go_enter Tryz.func95, Tryz.ntmps95
  go_wp2
  exact bodyPost_ret (v := .agg #[.int .i64 o]) (by simp [results, Tryz.results95, go_sem]) rfl ⟨rfl, (Below.refl _ _).alloc (Nat.le_refl _) _⟩
 ·have d1 : decide (0 < (b : Int)) = false := decide_eq_false (by omega)
  by_cases h2 : 0 < a
  ·have d2 : decide (0 < (a : Int)) = true := decide_eq_true (by omega)
   go_enter Tryz.func95, Tryz.ntmps95
   go_wp2
   exact bodyPost_ret (v := .agg #[.int .i64 o]) (by simp [results, Tryz.results95, go_sem]) rfl ⟨rfl, (Below.refl _ _).alloc (Nat.le_refl _) _⟩
  ·have d2 : decide (0 < (a : Int)) = false := decide_eq_false (by omega)
   go_enter Tryz.func95, Tryz.ntmps95
   go_wp2
   exact bodyPost_ret (v := .agg #[.int .i64 o]) (by simp [results, Tryz.results95, go_sem]) rfl ⟨rfl, (Below.refl _ _).alloc (Nat.le_refl _) _⟩
theorem newParser_bad (o : Nat) (ho : o < 512) (h : 0 < o &&& 128 ∧ 0 < o &&& 2) (w : World) :
  Calls Tryz.prog 95 #[.int .i64 o] w fun e w' => (∃ t x, e = .panicked [{ v := .iface t x, recovered := false }]) ∧ Below w.heap.size w w' := by
 have hand1 : bits .and .i64 (o : Int) 2 = ((o &&& 2 : Nat) : Int) := and_i64 (b := 2) (by omega) (by decide);have hand2 : bits .and .i64 (o : Int) 128 = ((o &&& 128 : Nat) : Int) := and_i64 (b := 128) (by omega) (by decide);generalize o &&& 2 = a at *;generalize o &&& 128 = b at *;have d1 : decide (0 < (b : Int)) = true := decide_eq_true (by omega);have d2 : decide (0 < (a : Int)) = true := decide_eq_true (by omega)
 go_enter Tryz.func95, Tryz.ntmps95
 go_wp2
 exact ⟨rfl, ⟨_, _, rfl⟩, (Below.refl _ _).alloc (Nat.le_refl _) _⟩
theorem catch_panicking (p : Addr) (x : Bool) (u : TypeId) (pv : Value) (older : List PanicEntry) (w : World) (hc : w.cell? p = some (.bool x)) (hz : w.frozen? p = false) :
  CallsD Tryz.prog 94 #[.pointer (some p)] (.panicking ({ v := .iface u pv, recovered := false } :: older)) w fun e u' w' =>
   e = .returned (.tuple #[]) ∧ u' = .panicking ({ v := .iface u pv, recovered := true } :: older) ∧ w' = w.setCell p (.bool true) := by
 refine callsD_of_wpS Tryz.func94 rfl fun c₀ cs hu => ?_
 apply wpS_seq
 apply wpS_region
 simp [wpOpsS, go_sem, recoverD, hu, Tryz.ntmps94, Exit.thenS];refine wpS_cond (t := true) (by simp [Act.eval, Array.replicate]) ?_;simp only [if_true]
 apply wpS_region
 simp [wpOpsS, go_sem, hc, hz, bodyPostS, results, Tryz.results94]
theorem catch_idle (p : Addr) (w : World) :
  CallsD Tryz.prog 94 #[.pointer (some p)] .returning w fun e u' w' => e = .returned (.tuple #[]) ∧ u' = .returning ∧ w' = w := by
 refine callsD_of_wpS Tryz.func94 rfl fun c₀ cs hu => ?_
 apply wpS_seq
 apply wpS_region
 simp [wpOpsS, go_sem, recoverD, hu, Tryz.ntmps94, Exit.thenS];refine wpS_cond (t := false) (by simp [Act.eval, Array.replicate]) ?_;simp only [Bool.false_eq_true, if_false];refine wpS_of_wp (wp_skip ?_)
 cases c₀
 simp_all [bodyPostS, results, Tryz.results94]
theorem parser_ok (o : Nat) (ho : o < 512) (h : ¬ (0 < o &&& 128 ∧ 0 < o &&& 2)) (w : World) :
  Calls Tryz.prog 45 #[.int .i64 o] w fun e w' => e = .returned (.tuple #[.agg #[.int .i64 o], .bool false]) ∧ Below w.heap.size w w' := by
 have hmf : ∀ (fn : Fn) (first cap : Array Value) (w : World), (Instr.makeFunc fn first cap).run Tryz.prog w = .ok (.func fn first cap) w := fun _ _ _ _ => rfl
 go_enter_defers Tryz.func45, Tryz.ntmps45
 go_wp2_with fail
 refine (newParser_ok o ho h _).mono ?_;rintro e w1 ⟨rfl, hb⟩;have hB : Below w.heap.size w w1 := (((Below.refl _ _).alloc (Nat.le_refl _) _).alloc (by simp) _).trans (hb.mono (by simp; omega));have c1 : w1.cell? ⟨w.heap.size, 0, none⟩ = some (.int .i64 0) := (hb.cell (p := ⟨w.heap.size, 0, none⟩) (by simp; omega)).trans (by simp [go_sem]);have c2 : w1.cell? ⟨w.heap.size + 1, 0, none⟩ = some (.bool false) := (hb.cell (p := ⟨w.heap.size + 1, 0, none⟩) (by simp)).trans (by simp [go_sem]);have f1 : w1.frozen? ⟨w.heap.size, 0, none⟩ = false := (hb.frozen (p := ⟨w.heap.size, 0, none⟩) (by simp; omega)).trans (by simp [go_sem]);have f2 : w1.frozen? ⟨w.heap.size + 1, 0, none⟩ = false := (hb.frozen (p := ⟨w.heap.size + 1, 0, none⟩) (by simp)).trans (by simp [go_sem]);have hz1 : w.heap.size + 1 < w1.heap.size := by have := hb.size; simp at this; omega
 clear hb
 go_wp2_with fail
 refine leaves_cons (f := 94) (args := #[.pointer (some ⟨w.heap.size + 1, 0, none⟩)]) (by simp) (by simp [go_sem]) ?_;refine (catch_idle ⟨w.heap.size + 1, 0, none⟩ _).mono ?_;rintro e u' w'' ⟨rfl, rfl, rfl⟩;have hB2 := Lib.hid ((hB.setCell (p := ⟨w.heap.size, 0, none⟩) (Nat.le_refl _) (.int .i64 o)).setCell (p := ⟨w.heap.size + 1, 0, none⟩) (by simp) (.bool false));simp [Leaves, settle, results, Tryz.results45, go_sem, c1, c2, f1, f2];exact hB2.out
theorem parser_bad (o : Nat) (ho : o < 512) (h : 0 < o &&& 128 ∧ 0 < o &&& 2) (w : World) :
  Calls Tryz.prog 45 #[.int .i64 o] w fun e w' => e = .returned (.tuple #[.agg #[.int .i64 0], .bool true]) ∧ Below w.heap.size w w' := by
 have hmf : ∀ (fn : Fn) (first cap : Array Value) (w : World), (Instr.makeFunc fn first cap).run Tryz.prog w = .ok (.func fn first cap) w := fun _ _ _ _ => rfl
 go_enter_defers Tryz.func45, Tryz.ntmps45
 go_wp2_with fail
 refine (newParser_bad o ho h _).mono ?_;rintro e w1 ⟨⟨t, x, rfl⟩, hb⟩;have hB : Below w.heap.size w w1 := (((Below.refl _ _).alloc (Nat.le_refl _) _).alloc (by simp) _).trans (hb.mono (by simp; omega));have c1 : w1.cell? ⟨w.heap.size, 0, none⟩ = some (.int .i64 0) := (hb.cell (p := ⟨w.heap.size, 0, none⟩) (by simp; omega)).trans (by simp [go_sem]);have c2 : w1.cell? ⟨w.heap.size + 1, 0, none⟩ = some (.bool false) := (hb.cell (p := ⟨w.heap.size + 1, 0, none⟩) (by simp)).trans (by simp [go_sem]);have f1 : w1.frozen? ⟨w.heap.size, 0, none⟩ = false := (hb.frozen (p := ⟨w.heap.size, 0, none⟩) (by simp; omega)).trans (by simp [go_sem]);have f2 : w1.frozen? ⟨w.heap.size + 1, 0, none⟩ = false := (hb.frozen (p := ⟨w.heap.size + 1, 0, none⟩) (by simp)).trans (by simp [go_sem]);have hz1 : w.heap.size + 1 < w1.heap.size := by have := hb.size; simp at this; omega
 clear hb
 go_wp2_with fail
 refine leaves_cons (f := 94) (args := #[.pointer (some ⟨w.heap.size + 1, 0, none⟩)]) (by simp) (by simp [go_sem]) ?_;refine (catch_panicking ⟨w.heap.size + 1, 0, none⟩ false t x [] _ c2 f2).mono ?_;rintro e u' w'' ⟨rfl, rfl, rfl⟩;have hB2 := Lib.hid (hB.setCell (p := ⟨w.heap.size + 1, 0, none⟩) (by simp) (.bool true));simp [Leaves, settle, results, Tryz.results45, go_sem, c1, c2, f1, f2];exact hB2.out
def twoB (o : Nat) : Bool := decide (0 < o &&& 128) && decide (0 < o &&& 2)
end Go.Proofs.YtmecbmgfacpecaaGreatDoor.Cron
namespace Go.Proofs.YtmecbmgfacpecaaGreatDoor.Cron
open Go Go.RowKit Go.Proofs.YtmecbmgfacpecaaGreatDoor.Text Go.Proofs.YtmecbmgfacpecaaGreatDoor.Bits Go.Proofs.YtmecbmgfacpecaaGreatDoorW.PrintWords Go.Proofs.YtmecbmgfacpecaaGreatDoorW.PrintLast Go.Proofs.YtmecbmgfacpecaaGreatDoorW.PrintMore Go.Proofs.YtmecbmgfacpecaaGreatDoor.Pr
set_option linter.unusedVariables false
set_option linter.unusedSimpArgs false
theorem two_f : ∀ o : Fin 512, spec_CronTwoOptional.f (o.val : Int) = some (twoB o.val) := by decide +kernel
def mI (m : Nat) : Int := if m = 6 then -1 else (m : Int)
theorem miss_f : ∀ o : Fin 512, spec_CronMayMiss.f (o.val : Int) = some (mI (missN o.val)) := by decide +kernel
theorem default_f : ∀ k : Fin 6, spec_CronDefault.f (k.val : Int) = some (defaultsL.getD k.val ⟨#[]⟩) := by decide +kernel
def SliceOf (w : World) (A : Option Addr) (fs : List ByteArray) : Prop := ∀ (i : Nat) (x : ByteArray), fs[i]? = some x → ∃ g, A = some ⟨g, 0, none⟩ ∧ g < w.heap.size ∧ w.cell? ⟨g, i, none⟩ = some (.string x)
theorem SliceOf.below {w w' : World} {A : Option Addr} {fs : List ByteArray} (h : SliceOf w A fs) (hb : Below w.heap.size w w') : SliceOf w' A fs := fun i x hx => by
 obtain ⟨g, h1, h2, h3⟩ := h i x hx;exact ⟨g, h1, Nat.lt_of_lt_of_le h2 hb.size, (hb.cell (p := ⟨g, i, none⟩) h2).trans h3⟩
def FillAns (w : World) (r : Option (List ByteArray)) (e : Ending) (w' : World) : Prop :=
 (match r with
  | some l => ∃ g, e = .returned (.tuple #[.slice (some ⟨g, 0, none⟩) 6 6, .bool true]) ∧ w.heap.size ≤ g ∧ Texts w' g 6 6 l
  | none => e = .returned (.tuple #[.slice none 0 0, .bool false])) ∧ Below w.heap.size w w'
theorem takesL_at (o m k : Nat) (hk : k < 6) : ∃ h : k < (takesL o m).length, (takesL o m)[k] = (takeB o k && !decide (k = m)) := by
 refine ⟨by simpa [takesL] using hk, ?_⟩;have : k = 0 ∨ k = 1 ∨ k = 2 ∨ k = 3 ∨ k = 4 ∨ k = 5 := by omega
 rcases this with rfl | rfl | rfl | rfl | rfl | rfl <;> rfl
theorem cnt_take (bs : List Bool) (k : Nat) (h : k < bs.length) : cnt (bs.take (k + 1)) = cnt (bs.take k) + (if bs[k] = true then 1 else 0) := by
 unfold cnt;rw [List.take_add_one, List.getElem?_eq_getElem h];simp only [Option.toList_some, List.filter_append, List.length_append]
 cases bs[k] <;> rfl
theorem cnt_take_le (bs : List Bool) (k : Nat) : cnt (bs.take k) ≤ cnt bs := List.Sublist.length_le (List.Sublist.filter _ (List.take_sublist k bs))
def rowF (F : List ByteArray) (k : Nat) : List ByteArray := F.take k ++ List.replicate (6 - k) ⟨#[]⟩
theorem rowF_set {F : List ByteArray} {k : Nat} (x y : ByteArray) (hk : k < 6) (hF : F.length = 6) (h : F[k]? = some x) : ((rowF F k).set k y).set k x = rowF F (k + 1) := by
 unfold rowF;rw [List.set_set, List.take_add_one, h, Option.toList_some];have ht : (F.take k).length = k := by rw [List.length_take]; omega
 rw [List.set_append_right _ _ (by omega), ht, Nat.sub_self, show 6 - k = (6 - (k + 1)) + 1 by omega, List.replicate_succ, List.set_cons_zero, List.append_assoc, List.singleton_append]
theorem rowF_set1 {F : List ByteArray} {k : Nat} (x : ByteArray) (hk : k < 6) (hF : F.length = 6) (h : F[k]? = some x) : (rowF F k).set k x = rowF F (k + 1) := by
 have := rowF_set x x hk hF h
 rwa [List.set_set] at this
theorem rowF_len {F : List ByteArray} {k : Nat} (hk : k ≤ 6) (hF : F.length = 6) : (rowF F k).length = 6 := by
 unfold rowF;rw [List.length_append, List.length_take, List.length_replicate];omega
set_option maxRecDepth 100000 in
theorem cnt_all : ∀ o : Fin 512, twoB o.val = true ∨ (cnt (takesL o.val 6) = takenC o.val 6 ∧ (missN o.val ≠ 6 → cnt (takesL o.val (missN o.val)) + 1 = takenC o.val 6)) := by decide +kernel
theorem made6 (F : List ByteArray) : ((rowF F 0).map Value.string).toArray = madeCells #[.string ⟨#[]⟩] 6 := by
 unfold rowF;rw [List.take_zero]
 kernel_rfl
theorem info_str6 : (Tryz.prog.info? 9).map (fun i => (i.zero, i.size, i.bytes)) = some (some (.string ⟨#[]⟩), 1, 16) := by kernel_rfl
set_option maxRecDepth 100000 in
set_option maxHeartbeats 4000000 in
theorem cronFill_any (o : Nat) (ho : o < 512) (h2 : twoB o = false) (A : Option Addr) (fs : List ByteArray) (c : Nat) (hfl : fs.length ≤ 4294967296) (w : World) (hS : SliceOf w A fs) :
  Calls Tryz.prog 138 #[.slice A fs.length c, .int .i64 o] w (FillAns w (fillS fs o)) := by
 have HT2 := Lib.hid (fun w' => spec_CronTwoOptional.calls o false w' ((two_f ⟨o, ho⟩).trans (by rw [h2])));have HMM := Lib.hid (fun w' => spec_CronMayMiss.calls o (mI (missN o)) w' (miss_f ⟨o, ho⟩));have HTK := Lib.hid (fun k hk w' => takes_any o ho k hk w');have HSL := Lib.hid hS;have hm6 : missN o = 0 ∨ missN o = 5 ∨ missN o = 6 := by unfold missN; (repeat' split) <;> omega
 have hcnt : cnt (takesL o 6) = takenC o 6 ∧ (missN o ≠ 6 → cnt (takesL o (missN o)) + 1 = takenC o 6) := by
  have := cnt_all ⟨o, ho⟩
  rcases this with h | h
  ·rw [h2] at h; cases h
  ·exact h
 have HCNT := Lib.hid hcnt;clear hS hcnt
 go_enter Tryz.func138, Tryz.ntmps138
 go_wp2_with fail
 refine (HT2.out _).mono ?_;rintro e w1 ⟨rfl, hb1⟩;have HB1 := Lib.hid (drawn_below hb1);clear hb1
 go_wp2_with fail
 go_loopw [6, 14] (fun v6 v14 wr => ∃ k : Nat, v14 = .int .i64 k ∧ k ≤ 6 ∧ v6 = .int .i64 (takenC o k : Nat) ∧ Below w.heap.size w wr) (fun _ v14 _ => 6 - (intOf v14).toNat)
 case atStart => exact ⟨0, rfl, by omega, rfl, HB1.out⟩
 case round =>
  obtain ⟨k, rfl, hk, rfl, hbr⟩ := hrel;have hle := takenC_le o k
  by_cases h6 : k < 6
  ·have HS : Hid (takenC o (k + 1) = takenC o k + (if takeB o k then 1 else 0)) := Lib.hid rfl;have HC := Lib.hid (HTK.out k h6);generalize takenC o k = n at *;generalize takeB o k = b at *
   cases b with
   | true =>
    go_wp2_with fail
    refine (HC.out _).mono ?_;rintro e w2 ⟨rfl, hb2⟩;have hB2 := below_of_le hbr hb2
    go_wp2_with fail
    go_roundw
    case rel => exact ⟨k + 1, by go_num, by omega, by rw [HS.out]; first | rfl | go_num, hB2⟩
    case measure => simp [intOf]; omega
   | false =>
    go_wp2_with fail
    refine (HC.out _).mono ?_;rintro e w2 ⟨rfl, hb2⟩;have hB2 := below_of_le hbr hb2
    go_wp2_with fail
    go_roundw
    case rel => exact ⟨k + 1, by go_num, by omega, by rw [HS.out]; first | rfl | go_num, hB2⟩
    case measure => simp [intOf]; omega
  ·have hk6 : k = 6 := by omega
   subst hk6;clear h6 hk HT2 HB1;have HBR := Lib.hid hbr;clear hbr
   go_wp2_with fail
   refine (HMM.out _).mono ?_;rintro e w2 ⟨rfl, hb2⟩;have HB2 := Lib.hid (below_of_le HBR.out (drawn_below hb2));clear hb2 HBR HMM;have hfs : Hid (fillS fs o = if fs.length = takenC o 6 then some (fillB (takesL o 6) defaultsL fs) else if missN o = 6 ∨ fs.length + 1 ≠ takenC o 6 then none else some (fillB (takesL o (missN o)) defaultsL fs)) := Lib.hid rfl;generalize takenC o 6 = T at *;generalize missN o = M at *
   by_cases hbad : fs.length ≠ T ∧ (M = 6 ∨ fs.length + 1 ≠ T)
   ·have HX : Hid (fillS fs o = none) := Lib.hid (by rw [hfs.out, if_neg hbad.1, if_pos hbad.2])
    have q1 : ((fs.length : Int) == (T : Int)) = false := by
     rw [beq_eq_false_iff_ne];have := hbad.1;omega
    by_cases hM : M = 6
    ·have q2 : mI M = -1 := by unfold mI; rw [if_pos hM]
     rw [q2];clear hbad q2
     go_wp2_with fail
     go_ret2
     rw [HX.out];exact ⟨rfl, HB2.out⟩
    ·have q2 : mI M = M := by unfold mI; rw [if_neg hM]
     rw [q2]
     have q3 : ((fs.length : Int) != (T : Int) - 1) = true := by
      rw [bne_iff_ne];have := hbad.2;omega
     clear hbad q2
     go_wp2_with fail
     go_ret2
     rw [HX.out];exact ⟨rfl, HB2.out⟩
   ·go_upto_if 28 with fail
    go_cut [8] (fun v8 wc => ∃ m : Nat, v8 = .int .i64 (mI m) ∧ Hid (fillS fs o = some (fillB (takesL o m) defaultsL fs)) ∧ m ≤ 6 ∧ cnt (takesL o m) ≤ fs.length ∧ w2 = wc)
    case first =>
     by_cases hA : fs.length = T
     ·have HX : Hid (fillS fs o = some (fillB (takesL o 6) defaultsL fs)) := Lib.hid (by rw [hfs.out, if_pos hA]);have hc6 : cnt (takesL o 6) ≤ fs.length := by have := HCNT.out.1; omega
      have q1 : ((fs.length : Int) == (T : Int)) = true := by
       rw [beq_iff_eq];omega
      clear hA hbad
      go_wp2_with fail
      go_meet
      exact ⟨6, rfl, HX, by omega, hc6, rfl⟩
     ·have hM : M ≠ 6 := fun h => hbad ⟨hA, .inl h⟩
      have hlen : fs.length + 1 = T := by
       by_cases h : fs.length + 1 = T
       ·exact h
       ·exact absurd ⟨hA, .inr h⟩ hbad
      have HX : Hid (fillS fs o = some (fillB (takesL o M) defaultsL fs)) := Lib.hid (by rw [hfs.out, if_neg hA, if_neg (fun h => by rcases h with h | h; exact hM h; exact h hlen)]);have hcM : cnt (takesL o M) ≤ fs.length := by have := HCNT.out.2 hM; omega
      have q1 : ((fs.length : Int) == (T : Int)) = false := by
       rw [beq_eq_false_iff_ne];omega
      have q2 : mI M = M := by unfold mI; rw [if_neg hM]
      have q3 : ((fs.length : Int) != (T : Int) - 1) = false := by
       rw [bne_eq_false_iff_eq];omega
      have HM6 : Hid (M ≤ 6) := Lib.hid (by omega);have HQ2 := Lib.hid q2;rw [q2];clear hA hbad hM hlen q2
      go_wp2_with fail
      go_meet
      exact ⟨M, by rw [HQ2.out], HX, HM6.out, hcM, rfl⟩
    case rest =>
     obtain ⟨m, rfl, HF, hm, hcm, rfl⟩ := hcut;obtain ⟨wo, rfl⟩ : ∃ wo : World, wo = w2 := ⟨_, rfl⟩
     clear hfs hbad HCNT hm6;obtain ⟨i0, hi0, hz0, hz1, hz2⟩ := info_parts info_str6;have hmk := fun w' : World => run_make w' 33 9 i0 (.string ⟨#[]⟩) Tryz.underlying33 hi0 hz0 .i64 .i64 6 6 (by omega) (by omega) (by rw [hz2]; omega) (by omega)
     rw [hz1] at hmk;have hFl : (fillB (takesL o m) defaultsL fs).length = 6 := fillB_len _ _ _ rfl;have hFa := fun k (h : k < (takesL o m).length) => fillB_at (takesL o m) defaultsL fs k h rfl hcm
     have HFL := Lib.hid hFl;have HFA := Lib.hid hFa;have HSO := Lib.hid (HSL.out.below HB2.out);clear hFl hFa HSL;generalize fillB (takesL o m) defaultsL fs = F at *
     go_wp2_with fail
     have hrow0 : Hid ((wo.alloc (.cells (madeCells #[.string ⟨#[]⟩] 6) 9)).heap[wo.heap.size]? = some (.cells ((rowF F 0).map Value.string).toArray 9 (0, 0))) := Lib.hid (by
      have e : ((rowF F 0).map Value.string).toArray = madeCells #[.string ⟨#[]⟩] 6 := made6 F;rw [e];exact heap_alloc_new wo _)
     have hb0 : Below wo.heap.size wo (wo.alloc (.cells (madeCells #[.string ⟨#[]⟩] 6) 9)) := (Below.refl _ _).alloc (Nat.le_refl _) _
     go_loopw [10, 41] (fun v10 v41 wr => ∃ k : Nat, v41 = .int .i64 k ∧ k ≤ 6 ∧ v10 = .int .i64 (cnt ((takesL o m).take k) : Nat) ∧ Hid (wr.heap[wo.heap.size]? = some (.cells ((rowF F k).map Value.string).toArray 9 (0, 0))) ∧ Below wo.heap.size wo wr) (fun _ v41 _ => 6 - (intOf v41).toNat)
     case atStart => exact ⟨0, rfl, by omega, rfl, hrow0, hb0⟩
     case round =>
      obtain ⟨k, rfl, hk, rfl, HROW, hbr⟩ := hrel;clear hrow0 hb0
      by_cases h6 : k < 6
      ·obtain ⟨hkl, hke⟩ := takesL_at o m k h6;have hct := cnt_take (takesL o m) k hkl;have hcl := cnt_take_le (takesL o m) k;have hcl1 := cnt_take_le (takesL o m) (k + 1);have hFk := HFA.out k hkl;have hlen6 := rowF_len (F := F) hk HFL.out
       have hdk : defaultsL[k]? = some (defaultsL.getD k ⟨#[]⟩) := by
        have : k < defaultsL.length := h6;simp [List.getD, this]
       have HD := Lib.hid (fun w' => spec_CronDefault.calls k (defaultsL.getD k ⟨#[]⟩) w' (default_f ⟨k, h6⟩));have HC := Lib.hid (HTK.out k h6);have HDK := Lib.hid hdk;have hcm2 := hcm;rw [hke] at hct hFk
       have HCT := Lib.hid hct;have HFK := Lib.hid hFk;clear hct hFk hke hdk
       have q1 : ((k : Int) != mI m) = !decide (k = m) := by
        unfold mI
        by_cases hm6 : m = 6
        ·rw [if_pos hm6, decide_eq_false (by omega)];simp
         try omega
        ·rw [if_neg hm6]
         by_cases hkm : k = m
         ·rw [decide_eq_true hkm]; simp [hkm]
         ·rw [decide_eq_false hkm];simp
          try omega
       generalize defaultsL.getD k ⟨#[]⟩ = d at *;generalize takeB o k = b at *;generalize hnx : cnt ((takesL o m).take k) = nx at *;have HNX := Lib.hid hnx;clear hnx
       go_wp2_with fail
       refine (HD.out _).mono ?_;rintro e w3 ⟨rfl, hb3⟩;have hB3 := drawn_below hb3;have hgr : wo.heap.size < wr.heap.size := (Array.getElem?_eq_some_iff.1 HROW.out).1;have hrow3 := (hB3.block _ hgr).trans HROW.out;have hbo3 := below_of_le hbr hB3
       have hcd : ∃ v, w3.cell? ⟨wo.heap.size, k, none⟩ = some v := by
        rw [cell_of_row w3 wo.heap.size k _ _ _ hrow3];exact ⟨_, Array.getElem?_eq_getElem (by simp [hlen6]; omega)⟩
       obtain ⟨v0, hcd⟩ := hcd;have hfd : w3.frozen? ⟨wo.heap.size, k, none⟩ = false := frozen_of_row _ _ _ _ _ hrow3;have HROW4 := Lib.hid (row_put (i := k) d hrow3);have HB4 := Lib.hid (hbo3.setCell (p := ⟨wo.heap.size, k, none⟩) (Nat.le_refl _) (.string d));clear hb3 hB3 hrow3 hbo3 hbr HROW HD
       go_wp2_with fail
       refine (HC.out _).mono ?_;rintro e w5 ⟨rfl, hb5⟩;have hg4 := (Array.getElem?_eq_some_iff.1 HROW4.out).1;have HROW5 := Lib.hid ((hb5.block _ hg4).trans HROW4.out);have HB5 := Lib.hid (below_of_le HB4.out hb5);clear hb5 hg4 HROW4 HB4 HC hcd hfd
       by_cases hon : (b && !decide (k = m)) = true
       ·have hb : b = true := by
         cases b
         ·simp at hon
         ·rfl
        subst hb;have hkm : decide (k = m) = false := by simpa using hon
        rw [hkm] at q1;have hq2 : ((k : Int) != mI m) = true := q1
        have hx : ∃ y, fs[nx]? = some y := by
         have h1 := HCT.out;rw [if_pos hon] at h1;exact ⟨_, List.getElem?_eq_getElem (by omega)⟩
        obtain ⟨y, hy⟩ := hx
        have hFy : F[k]? = some y := by
         have := HFK.out;rw [if_pos hon] at this;rw [this];exact hy
        obtain ⟨ga, rfl, hga, hca⟩ := HSO.out nx y hy;have hnl : nx < fs.length := (List.getElem?_eq_some_iff.1 hy).1;have hca5 : w5.cell? ⟨ga, nx, none⟩ = some (.string y) := (HB5.out.cell (p := ⟨ga, nx, none⟩) hga).trans hca
        have hcd5 : w5.cell? ⟨wo.heap.size, k, none⟩ = some (.string d) := by
         rw [cell_of_row w5 wo.heap.size k _ _ _ HROW5.out];simp [hlen6, h6]
        have hfd5 : w5.frozen? ⟨wo.heap.size, k, none⟩ = false := frozen_of_row _ _ _ _ _ HROW5.out;have HN : Hid (cnt ((takesL o m).take (k + 1)) = nx + 1) := Lib.hid (by rw [HCT.out, if_pos hon]);have HR := Lib.hid (row_put (i := k) y HROW5.out);have HRS := Lib.hid (rowF_set y d h6 HFL.out hFy);clear hkm hon q1 hy hFy hca hcl hcl1
        go_wp2_with fail
        go_roundw
        case rel => exact ⟨k + 1, by go_num, by omega, by rw [HN.out]; go_num, Lib.hid (by rw [← HRS.out]; exact HR.out), HB5.out.setCell (p := ⟨wo.heap.size, k, none⟩) (Nat.le_refl _) _⟩
        case measure => simp [intOf]; omega
       ·have hFd : F[k]? = some d := by
         have := HFK.out;rw [if_neg hon] at this;rw [this];exact HDK.out
        have HN : Hid (cnt ((takesL o m).take (k + 1)) = nx) := Lib.hid (by rw [HCT.out, if_neg hon]; rfl);have HRS := Lib.hid (rowF_set1 d h6 HFL.out hFd)
        cases b with
        | false =>
         clear hon hFd q1 hcl hcl1
         go_wp2_with fail
         go_roundw
         case rel => exact ⟨k + 1, by go_num, by omega, by rw [HN.out], Lib.hid (by rw [← HRS.out]; exact HROW5.out), HB5.out⟩
         case measure => simp [intOf]; omega
        | true =>
         have hkm : decide (k = m) = true := by
          cases h : decide (k = m)
          ·rw [h] at hon; exact absurd rfl hon
          ·rfl
         rw [hkm] at q1;have hq2 : ((k : Int) != mI m) = false := q1;clear hon hFd q1 hkm hcl hcl1
         go_wp2_with fail
         go_roundw
         case rel => exact ⟨k + 1, by go_num, by omega, by rw [HN.out], Lib.hid (by rw [← HRS.out]; exact HROW5.out), HB5.out⟩
         case measure => simp [intOf]; omega
      ·have hk6 : k = 6 := by omega
       subst hk6
       have hend : rowF F 6 = F := by
        unfold rowF;rw [List.take_of_length_le (by rw [HFL.out]; exact Nat.le_refl _)];simp
       have hrowF := HROW.out;rw [hend] at hrowF
       have HT : Hid (Texts wr wo.heap.size 6 6 F) := Lib.hid ⟨HFL.out.symm, Nat.le_refl _, (Array.getElem?_eq_some_iff.1 hrowF).1, fun j x hx => by
        rw [cell_of_row wr wo.heap.size j _ _ _ hrowF];simp [hx]⟩
       clear hend hrowF h6 hk
       go_wp2_with fail
       go_ret2
       rw [HF.out];exact ⟨⟨wo.heap.size, rfl, HB2.out.size, HT.out⟩, below_of_le HB2.out hbr⟩
end Go.Proofs.YtmecbmgfacpecaaGreatDoor.Cron
namespace Go.Proofs.YtmecbmgfacpecaaGreatDoor.Cron
open Go Go.RowKit Go.Proofs.YtmecbmgfacpecaaGreatDoor.Text Go.Proofs.YtmecbmgfacpecaaGreatDoor.Bits
set_option linter.unusedVariables false
theorem union_start (pa pb : Nat → Bool) : (fun j => if j < 0 then pa j || pb j else pa j) = pa := by
 funext j
 simp
theorem union_next (pa pb : Nat → Bool) (n : Nat) : (fun i => if i = n then (pa n || pb n) else (if i < n then pa i || pb i else pa i)) = (fun i => if i < n + 1 then pa i || pb i else pa i) := by
 funext i
 by_cases h : i = n
 ·subst h;rw [if_pos rfl, if_pos (by omega)]
 ·rw [if_neg h]
  by_cases h2 : i < n
  ·rw [if_pos h2, if_pos (by omega)]
  ·rw [if_neg h2, if_neg (by omega)]
theorem union_end (sa : Bool) (pa pb : Nat → Bool) (n : Nat) (h : 63 ≤ n) : setCells sa (fun j => if j < n then pa j || pb j else pa j) = setCells sa (fun j => pa j || pb j) :=
 setCells_ext fun j hj => by rw [if_pos (by omega)]
theorem results_one {fn : Func} {p : Tmp} (h : fn.results = #[.cell p 56]) (tmps : Array Value) (w : World) (g : Nat) (st : Bool) (q : Nat → Bool)
  (hp : tmps.getD p undef = .pointer (some ⟨g, 0, none⟩)) (hs : IsSet w g st q) :
  (results fn tmps).run Tryz.prog w = .ok (.agg (setCells st q)) w := by
 have hp' : tmps[p]?.getD undef = .pointer (some ⟨g, 0, none⟩) := by simpa using hp
 simp only [results, h];simp [asAddr, hp', run_load_set w g st q hs]
set_option maxRecDepth 100000 in
set_option maxHeartbeats 1000000 in
theorem cronUnion_any (sa sb : Bool) (pa pb : Nat → Bool) (w : World) :
  Calls Tryz.prog 59 #[.agg (setCells sa pa), .agg (setCells sb pb)] w fun e w' => e = .returned (.agg (setCells (sa || sb) (fun j => pa j || pb j))) ∧ Below w.heap.size w w' := by
 have hidx := run_index_in pb;have hboxa := run_box_set sa pa;have hboxb := run_box_set sb pb;have hal := run_alloc_set
 go_enter Tryz.func59, Tryz.ntmps59
 go_upto_region 1 with fail
 generalize hW : World.alloc (World.alloc (World.alloc w _) _) _ = wL
 have HA : Hid (IsSet wL w.heap.size sa pa) := Lib.hid (by
  rw [← hW];exact (isSet_new w sa pa).below (((Below.refl _ _).alloc (Nat.le_refl _) _).alloc (by simp) _))
 have HB : Hid (IsSet wL (w.heap.size + 1) sb pb) := Lib.hid (by
  rw [← hW];have := isSet_new (w.alloc (.cells (setCells sa pa) 56)) sb pb;rw [show (w.alloc (.cells (setCells sa pa) 56)).heap.size = w.heap.size + 1 by simp] at this;exact this.below ((Below.refl _ _).alloc (by simp) _))
 have HR : Hid (IsSet wL (w.heap.size + 2) false noSet) := Lib.hid (by
  rw [← hW];have := isSet_lit ((w.alloc (.cells (setCells sa pa) 56)).alloc (.cells (setCells sb pb) 56));rw [show ((w.alloc (.cells (setCells sa pa) 56)).alloc (.cells (setCells sb pb) 56)).heap.size = w.heap.size + 2 by simp] at this;exact this)
 have HW : Hid (Below w.heap.size w wL) := Lib.hid (by
  rw [← hW];exact (((Below.refl _ _).alloc (Nat.le_refl _) _).alloc (by simp) _).alloc (by simp; omega) _)
 clear hW
 go_wp2_with (refine wpList_load_in rfl _ rfl (w.heap.size + 1) sb pb rfl HB.out ?_)
 go_loopw [9] (fun v9 wr => ∃ n : Nat, v9 = .int .i64 n ∧ n ≤ 63 ∧ Hid (IsSet wr w.heap.size sa (fun j => if j < n then pa j || pb j else pa j)) ∧ Hid (IsSet wr (w.heap.size + 1) sb pb) ∧ Hid (IsSet wr (w.heap.size + 2) false noSet) ∧ Below w.heap.size w wr) (fun v9 _ => 63 - (intOf v9).toNat)
 case atStart => exact ⟨0, rfl, by omega, Lib.hid (by rw [union_start]; exact HA.out), HB, HR, HW.out⟩
 case round =>
  obtain ⟨n, rfl, hn, HA', HB', HR', hbr⟩ := hrel;clear HA HB HR HW hboxa hboxb hal
  by_cases h : n < 63
  ·have hi := hidx n h
   have hc : wr.cell? ⟨w.heap.size, 1 + n, none⟩ = some (.bool (pa n)) := by
    have := HA'.out.cellAt n h;rw [if_neg (by omega)] at this;rw [Nat.add_comm]; exact this
   have hf : wr.frozen? ⟨w.heap.size, 1 + n, none⟩ = false := by rw [Nat.add_comm]; exact HA'.out.free (n + 1)
   have HN := Lib.hid (HA'.out.put n h (pa n || pb n));have hunion := union_next pa pb n;have hne1 : w.heap.size + 1 ≠ w.heap.size := by omega
   have hne2 : w.heap.size + 2 ≠ w.heap.size := by omega
   cases hp : pa n
   all_goals
    rw [hp] at hc
    go_wp2_with fail
    go_roundw
    case rel =>
     refine ⟨n + 1, by go_num, by omega, Lib.hid ?_, Lib.hid (HB'.out.other hne1 _), Lib.hid (HR'.out.other hne2 _), hbr.setCell (Nat.le_refl _) _⟩;have h1 := HN.out;rw [hunion, Nat.add_comm n 1, hp] at h1;rw [Nat.add_comm n 1]
     first | exact h1 | (rw [Nat.add_comm 1 n] at *; simpa using h1)
    case measure => simp [intOf]; omega
  ·have he : IsSet wr w.heap.size sa (fun j => pa j || pb j) := by
    have := HA'.out;unfold IsSet at this ⊢
    rw [union_end sa pa pb n (by omega)] at this;exact this
   have hca := he.cell0;have hfa := he.free 0;have hcb := HB'.out.cell0;have hne2 : w.heap.size + 2 ≠ w.heap.size := by omega
   cases sa
   ·have HL := Lib.hid (he.putStar (false || sb));have HR2 := Lib.hid (HR'.out.other (a := ⟨w.heap.size, 0, none⟩) hne2 (.bool (false || sb)));have HS2 := Lib.hid (HR2.out.store (false || sb) (fun j => pa j || pb j));have hb2 : Below w.heap.size w ((wr.setCell ⟨w.heap.size, 0, none⟩ (.bool (false || sb))).setRow (w.heap.size + 2) (setCells (false || sb) (fun j => pa j || pb j))) := below_setRow (hbr.setCell (Nat.le_refl _) _) (by omega) _;clear he hbr HA' HB'
    go_wp2_with (first | (refine wpList_load_set rfl _ rfl w.heap.size _ (fun j => pa j || pb j) rfl HL.out ?_) | (refine wpList_store_set rfl _ _ rfl (w.heap.size + 2) _ (fun j => pa j || pb j) rfl rfl _ _ HR2.out ?_))
    refine bodyPost_ret (v := .agg (setCells (false || sb) (fun j => pa j || pb j))) ?_ rfl ?_
    ·exact results_one (fn := Tryz.f59) (p := 4) rfl _ _ (w.heap.size + 2) _ _ rfl HS2.out
    exact ⟨rfl, hb2⟩
   ·have HL := Lib.hid (he.putStar (true || sb));have HR2 := Lib.hid (HR'.out.other (a := ⟨w.heap.size, 0, none⟩) hne2 (.bool (true || sb)));have HS2 := Lib.hid (HR2.out.store (true || sb) (fun j => pa j || pb j));have hb2 : Below w.heap.size w ((wr.setCell ⟨w.heap.size, 0, none⟩ (.bool (true || sb))).setRow (w.heap.size + 2) (setCells (true || sb) (fun j => pa j || pb j))) := below_setRow (hbr.setCell (Nat.le_refl _) _) (by omega) _;clear he hbr HA' HB'
    go_wp2_with (first | (refine wpList_load_set rfl _ rfl w.heap.size _ (fun j => pa j || pb j) rfl HL.out ?_) | (refine wpList_store_set rfl _ _ rfl (w.heap.size + 2) _ (fun j => pa j || pb j) rfl rfl _ _ HR2.out ?_))
    refine bodyPost_ret (v := .agg (setCells (true || sb) (fun j => pa j || pb j))) ?_ rfl ?_
    ·exact results_one (fn := Tryz.f59) (p := 4) rfl _ _ (w.heap.size + 2) _ _ rfl HS2.out
    exact ⟨rfl, hb2⟩
end Go.Proofs.YtmecbmgfacpecaaGreatDoor.Cron
namespace Go.Proofs.YtmecbmgfacpecaaGreatDoor.Cron
open Go Go.RowKit Go.Proofs.YtmecbmgfacpecaaGreatDoor.Text Go.Proofs.YtmecbmgfacpecaaGreatDoor.Bits
set_option linter.unusedVariables false
def upTo (R : List UInt8 → Option Nat) (ps : List (List UInt8)) (i : Nat) : Option Nat := fieldGo R ((ps.take i).filter (· ≠ [])) 0
theorem fieldGo_append (R : List UInt8 → Option Nat) : ∀ (xs ys : List (List UInt8)) (b : Nat), fieldGo R (xs ++ ys) b = (fieldGo R xs b).bind (fieldGo R ys)
 | [], ys, b => rfl
 | x :: xs, ys, b => by
  simp only [List.cons_append, fieldGo]
  cases R x with
  | none => rfl
  | some c => exact fieldGo_append R xs ys _
theorem upTo_empty {R : List UInt8 → Option Nat} {ps : List (List UInt8)} {i : Nat} (h : ps[i]? = some []) : upTo R ps (i + 1) = upTo R ps i := by
 unfold upTo;rw [List.take_add_one, h];simp
theorem upTo_item {R : List UInt8 → Option Nat} {ps : List (List UInt8)} {i : Nat} {x : List UInt8} (h : ps[i]? = some x) (hx : x ≠ []) :
  upTo R ps (i + 1) = (upTo R ps i).bind fun b => (R x).map fun c => b ||| c := by
 unfold upTo;rw [List.take_add_one, h];simp only [Option.toList_some, List.filter_append];rw [List.filter_cons_of_pos (by simpa using hx), List.filter_nil, fieldGo_append]
 congr 1
 funext b
 simp only [fieldGo]
 cases R x <;> rfl
theorem upTo_all {val : List UInt8 → Option Nat} {lo hi : Nat} {l : List UInt8} {i : Nat} (h : (splitL 44 l).length ≤ i) : upTo (rangeS val lo hi) (splitL 44 l) i = fieldS val lo hi l := by
 unfold upTo fieldS partsL;rw [List.take_of_length_le h]
theorem setBits_or (sa sb : Bool) (pa pb : Nat → Bool) : setBits (sa || sb) (fun j => pa j || pb j) = setBits sa pa ||| setBits sb pb := by
 unfold setBits;rw [← mkBits_or]
 apply Nat.eq_of_testBit_eq
 intro j
 cases sa <;> cases sb <;> simp [Nat.testBit_or, Bool.or_assoc, Bool.or_comm, Bool.or_left_comm]
structure FieldMid (r : Option Nat) (star : Bool) (p : Nat → Bool) (v : Int) : Prop where
 vs : v = 0 ∨ v = 1 ∨ v = 2
 bad : v = 0 → r = none
 fine : v = 1 → r = some (setBits star p)
theorem mid_start (R : List UInt8 → Option Nat) (ps : List (List UInt8)) : FieldMid (upTo R ps 0) false noSet 1 := by
 refine ⟨by omega, fun h => by omega, fun _ => ?_⟩;unfold upTo;simp only [List.take_zero, List.filter_nil, fieldGo]
 congr 1
theorem mid_empty {R : List UInt8 → Option Nat} {ps : List (List UInt8)} {i : Nat} {star : Bool} {p : Nat → Bool} {v v' : Int} (h : FieldMid (upTo R ps i) star p v) (hx : ps[i]? = some [])
  (hv : v' = 0 ∨ v' = 1 ∨ v' = 2) (h0 : v' = 0 → v = 0 ∨ (2 : Int) = 0) (h1 : v' = 1 → v = 1 ∧ (2 : Int) = 1) : FieldMid (upTo R ps (i + 1)) star p v' := by
 rw [upTo_empty hx];exact ⟨hv, fun e => by rcases h0 e with e | e; exact h.bad e; omega, fun e => by have := (h1 e).2; omega⟩
theorem mid_item {R : List UInt8 → Option Nat} {ps : List (List UInt8)} {i : Nat} {star sx : Bool} {p px : Nat → Bool} {v vx v' : Int} {x : List UInt8} (h : FieldMid (upTo R ps i) star p v) (hx : ps[i]? = some x) (hne : x ≠ [])
  (hi : ItemIs (R x) sx px vx) (hv : v' = 0 ∨ v' = 1 ∨ v' = 2) (h0 : v' = 0 → v = 0 ∨ vx = 0) (h1 : v' = 1 → v = 1 ∧ vx = 1) : FieldMid (upTo R ps (i + 1)) (star || sx) (fun j => p j || px j) v' := by
 rw [upTo_item hx hne];refine ⟨hv, fun e => ?_, fun e => ?_⟩
 ·rcases h0 e with e | e
  ·rw [h.bad e]; rfl
  ·rw [hi.bad e]
   cases upTo R ps i <;> rfl
 ·obtain ⟨e1, e2⟩ := h1 e;rw [h.fine e1, hi.fine e2, setBits_or];rfl
end Go.Proofs.YtmecbmgfacpecaaGreatDoor.Cron
namespace Go.Proofs.YtmecbmgfacpecaaGreatDoor.Cron
open Go Go.RowKit Go.Proofs.YtmecbmgfacpecaaGreatDoor.Text Go.Proofs.YtmecbmgfacpecaaGreatDoor.Bits Go.Proofs.YtmecbmgfacpecaaGreatDoorW.PrintWords Go.Proofs.YtmecbmgfacpecaaGreatDoorW.PrintLast Go.Proofs.YtmecbmgfacpecaaGreatDoorW.PrintMore Go.Proofs.YtmecbmgfacpecaaGreatDoor.Pr
set_option linter.unusedVariables false
set_option linter.unusedSimpArgs false
theorem eqEmpty {q : List UInt8} : ((ba q).toList == []) = decide (q = []) := by rw [toList_data, ba_list]; exact Bool.eq_iff_iff.2 ⟨fun h => decide_eq_true (eq_of_beq h), fun h => beq_iff_eq.2 (of_decide_eq_true h)⟩
theorem texts_row {w : World} {g n c : Nat} {l : List ByteArray} (h : Texts w g n c l) {k : Nat} (hk : g ≠ k) (cs : Array Value) : Texts (w.setRow k cs) g n c l :=
 ⟨h.len, h.le, by simpa [World.setRow] using h.lt, fun i x hx => by
  have := h.at_ i x hx;unfold World.cell? at this ⊢
  rw [setRow_other w k g cs hk];exact this⟩
theorem isSet_third (w : World) (o1 o2 o3 : Obj) (h : ∀ w' : World, IsSet (w'.alloc o3) w'.heap.size false noSet) : IsSet (((w.alloc o1).alloc o2).alloc o3) (w.heap.size + 2) false noSet := by
 have := h ((w.alloc o1).alloc o2);rw [show ((w.alloc o1).alloc o2).heap.size = w.heap.size + 2 by simp] at this;exact this
set_option maxRecDepth 100000 in
set_option maxHeartbeats 1600000 in
theorem cronField_any (val : List UInt8 → Option Nat) (kind : Int) (HV : ReadsLike val kind) (lo hi : Nat) (s : ByteArray) (hs : s.size ≤ 4294967296) (h1 : lo ≤ hi) (h2 : hi ≤ 62) (w : World) :
  Calls Tryz.prog 21 #[.agg #[.int .i64 lo, .int .i64 hi, .int .i64 kind], .string s] w (ItemPost w (fieldS val lo hi s.data.toList)) := by
 have hal := run_alloc_set
 have hsz : ∀ x ∈ splitL 44 s.data.toList, (ba x).size ≤ 4294967296 := by
  intro x hx;have := splitL_size 44 _ x hx;rw [← size_list] at this;rw [ba_size];omega
 have hlen : (splitL 44 s.data.toList).length ≤ 4294967297 := by
  have h2 := splitL_len 44 s.data.toList;rw [← size_list] at h2;omega
 have HP := Lib.hid (fun w' => pieces_any 44 s (by omega) w');have HALL := Lib.hid (fun i h => upTo_all (val := val) (lo := lo) (hi := hi) (l := s.data.toList) (i := i) h);have HSPL : Hid (splitB 44 s = (splitL 44 s.data.toList).map ba) := Lib.hid rfl;have HSZ := Lib.hid hsz;clear hsz;generalize hF : fieldS val lo hi s.data.toList = F at *;generalize splitL 44 s.data.toList = ps at *;clear hF
 go_enter Tryz.func21, Tryz.ntmps21
 go_upto_region 3 with fail
 generalize hW : World.alloc (World.alloc (World.alloc w _) _) _ = wL
 have hbx : wL.heap[w.heap.size]? = some (.cells #[.int .i64 lo, .int .i64 hi, .int .i64 kind] 60 (0, 0)) := by
  rw [← hW];exact box_row w _ _ _ ((Below.refl _ _).alloc (Nat.le_refl _) _)
 have hR1 : IsSet wL (w.heap.size + 1) false noSet := by
  rw [← hW];have := isSet_lit (w.alloc (.cells #[.int .i64 lo, .int .i64 hi, .int .i64 kind] 60));rw [show (w.alloc (.cells #[.int .i64 lo, .int .i64 hi, .int .i64 kind] 60)).heap.size = w.heap.size + 1 by simp] at this;exact this.below ((Below.refl _ _).alloc (by simp) _)
 have hR2 : IsSet wL (w.heap.size + 2) false noSet := by
  rw [← hW];exact isSet_third w _ _ _ isSet_lit
 have hBL : Below w.heap.size w wL := by
  rw [← hW];exact (((Below.refl _ _).alloc (Nat.le_refl _) _).alloc (by simp) _).alloc (by simp; omega) _
 clear hW
 go_wp2_with (go_at_call 56; go_must (refine (HP.out _).mono ?_); rintro e w1 ⟨g, n, c, rfl, hg, ht, hb1⟩)
 have hz1 : w.heap.size + 2 < w1.heap.size := Nat.lt_of_lt_of_le hR2.lt hb1.size;have hB1 := below_of_le hBL hb1;have HBX := Lib.hid ((hb1.block w.heap.size (by have := hR2.lt; omega)).trans hbx);have HR1 := Lib.hid (hR1.below hb1);have HR2 := Lib.hid (hR2.below hb1);rw [HSPL.out] at ht;have hn : n = ps.length := by rw [ht.len, List.length_map]
 subst hn;have HT := Lib.hid ht;have HB1 := Lib.hid hB1;have hg2 : w.heap.size + 2 < g := Nat.lt_of_lt_of_le hR2.lt hg;clear hbx hR1 hR2 hBL hb1 ht hB1 hg HP HSPL
 go_loopw [7, 15] (fun v7 v15 wr => ∃ (i : Nat) (v : Int) (star : Bool) (p : Nat → Bool), v15 = .int .i64 i ∧ v7 = .int .i64 v ∧ i ≤ ps.length ∧ Hid (FieldMid (upTo (rangeS val lo hi) ps i) star p v) ∧ Hid (IsSet wr (w.heap.size + 2) star p) ∧ Hid (IsSet wr (w.heap.size + 1) false noSet) ∧ Hid (wr.heap[w.heap.size]? = some (.cells #[.int .i64 lo, .int .i64 hi, .int .i64 kind] 60 (0, 0))) ∧ Hid (Texts wr g ps.length c (ps.map ba)) ∧ Below w.heap.size w wr) (fun _ v15 _ => ps.length - (intOf v15).toNat)
 case atStart => exact ⟨0, 1, false, noSet, rfl, rfl, by omega, Lib.hid (mid_start _ _), HR2, HR1, HBX, HT, HB1.out⟩
 case round =>
  obtain ⟨i, v, star, p, rfl, rfl, hil, HM, HS, HS1, HBX', HT', hbr⟩ := hrel;clear HR1 HR2 HBX HT HB1
  by_cases hlt : i < ps.length
  ·have hxi : ps[i]? = some ps[i] := List.getElem?_eq_getElem hlt;have hmem := List.getElem_mem hlt;generalize ps[i] = x at hxi hmem
   have hc : wr.cell? ⟨g, i, none⟩ = some (.string (ba x)) := HT'.out.at_ i _ (by rw [List.getElem?_map, hxi]; rfl)
   by_cases hx : x = []
   ·subst hx;have he : ((ba []).toList == []) = true := by rw [eqEmpty]; rfl
    obtain ⟨v3, hw3, hvs3, hw0, hw1, _, _⟩ := worse_f v 2 HM.out.vs (by omega);have HM2 := Lib.hid (mid_empty HM.out hxi hvs3 hw0 hw1);have HC := Lib.hid (fun w' => spec_worse.calls v 2 v3 w' hw3);clear hw3 hw0 hw1 hmem
    go_wp2_with (go_at_call 57; go_must (refine (HC.out _).mono ?_); rintro e w5 ⟨rfl, hb5⟩)
    go_roundw
    case rel => exact ⟨i + 1, v3, star, p, by go_num, rfl, by omega, HM2, Lib.hid (HS.out.below hb5), Lib.hid (HS1.out.below hb5), Lib.hid ((hb5.block w.heap.size (by have := HS.out.lt; omega)).trans HBX'.out), Lib.hid (HT'.out.below hb5), below_of_le hbr hb5⟩
    case measure => simp [intOf]; omega
   ·have he : ((ba x).toList == []) = false := by rw [eqEmpty]; exact decide_eq_false hx
    have hd0 : wr.cell? ⟨w.heap.size, 0, none⟩ = some (.int .i64 lo) := cell_of_row _ _ _ _ _ _ HBX'.out;have hd1 : wr.cell? ⟨w.heap.size, 1, none⟩ = some (.int .i64 hi) := cell_of_row _ _ _ _ _ _ HBX'.out;have hd2 : wr.cell? ⟨w.heap.size, 2, none⟩ = some (.int .i64 kind) := cell_of_row _ _ _ _ _ _ HBX'.out;have HCI := Lib.hid (fun w' => cronItem_any val kind HV lo hi (ba x) (HSZ.out x hmem) h1 h2 w')
    go_wp2_with fail
    refine (HCI.out _).mono ?_;rintro e w2 ⟨sx, px, vx, rfl, hi2, hb2⟩;obtain ⟨v3, hw3, hvs3, hw0, hw1, _, _⟩ := worse_f v vx HM.out.vs hi2.vs;have HM2 := Lib.hid (mid_item HM.out hxi hx hi2 hvs3 hw0 hw1);have HC := Lib.hid (fun w' => spec_worse.calls v vx v3 w' hw3);have HU := Lib.hid (fun w' => cronUnion_any star sx p px w');have HN := Lib.hid (isSet_lit w2);have HW := Lib.hid (HN.out.store sx px);have hsz2 : w.heap.size + 2 < w2.heap.size := Nat.lt_of_lt_of_le HS.out.lt hb2.size;have hbig : ∀ o, Below w2.heap.size w2 ((w2.alloc o).setRow w2.heap.size (setCells sx px)) := fun o => below_setRow ((Below.refl _ _).alloc (Nat.le_refl _) _) (Nat.le_refl _) _
    have HBIG := Lib.hid hbig;have HS2 := Lib.hid (fun o => (HS.out.below hb2).below (HBIG.out o));have hB2 := below_of_le hbr hb2;have HSA := Lib.hid (HS1.out.below hb2);have HBXA := Lib.hid ((hb2.block w.heap.size (by have := HS.out.lt; omega)).trans HBX'.out);have HTA := Lib.hid (HT'.out.below hb2);clear hd0 hd1 hd2 hc hbr hbig HS HS1 HBX' HT' hw3 hw0 hw1 hi2 hb2 hmem HCI
    go_wp2_with (first | (refine wpList_store_set rfl _ _ rfl w2.heap.size sx px rfl rfl false noSet HN.out ?_) | (refine wpList_load_set rfl _ rfl (w.heap.size + 2) star p rfl (HS2.out _) ?_) | (refine wpList_load_set rfl _ rfl w2.heap.size sx px rfl HW.out ?_))
    refine (HU.out _).mono ?_;rintro e w3 ⟨rfl, hb3⟩;have hw2s : w2.heap.size + 1 ≤ w3.heap.size := by have := hb3.size; simp [World.setRow] at this; omega
    have hbA := HBIG.out (.cells #[.bool false, .bool false, .bool false, .bool false, .bool false, .bool false, .bool false, .bool false, .bool false, .bool false, .bool false, .bool false, .bool false, .bool false, .bool false, .bool false, .bool false, .bool false, .bool false, .bool false, .bool false, .bool false, .bool false, .bool false, .bool false, .bool false, .bool false, .bool false, .bool false, .bool false, .bool false, .bool false, .bool false, .bool false, .bool false, .bool false, .bool false, .bool false, .bool false, .bool false, .bool false, .bool false, .bool false, .bool false, .bool false, .bool false, .bool false, .bool false, .bool false, .bool false, .bool false, .bool false, .bool false, .bool false, .bool false, .bool false, .bool false, .bool false, .bool false, .bool false, .bool false, .bool false, .bool false, .bool false] 56);have hb23 : Below w2.heap.size w2 w3 := below_of_le hbA hb3;have HS3 := Lib.hid ((HS2.out _).below hb3);have HB23 := Lib.hid hb23;clear hb3 hb23 hbA HN HW HS2 HBIG HU
    go_wp2_with fail
    refine (HC.out _).mono ?_;rintro e w4 ⟨rfl, hb4⟩;have HS4 := Lib.hid (HS3.out.below hb4);have hb24 := below_of_le HB23.out hb4;have HB24 := Lib.hid hb24;have HSA4 := Lib.hid (HSA.out.below hb24);have HBX4 := Lib.hid ((hb24.block w.heap.size (by omega)).trans HBXA.out);have HT4 := Lib.hid (HTA.out.below hb24);have hB4 := below_of_le hB2 hb24;clear HS3 HB23 HSA HBXA HTA hb4 hb24 HC hB2
    go_wp2_with (refine wpList_store_set rfl _ _ rfl (w.heap.size + 2) (star || sx) (fun j => p j || px j) rfl rfl star p HS4.out ?_)
    go_roundw
    case rel =>
     exact ⟨i + 1, v3, star || sx, _, by go_num, rfl, by omega, HM2, Lib.hid (HS4.out.store _ _), Lib.hid (HSA4.out.row_other (by omega) _), Lib.hid ((setRow_other w4 (w.heap.size + 2) w.heap.size _ (by omega)).trans HBX4.out), Lib.hid (texts_row HT4.out (by omega) _), below_setRow hB4 (by omega) _⟩
    case measure => simp [intOf]; omega
  ·have hie : ps.length ≤ i := by omega
   have HF : Hid (FieldMid F star p v) := Lib.hid (by rw [← HALL.out i hie]; exact HM.out);clear HM HBX' HT'
   by_cases hv : v = 1
   ·subst hv;have HR2 := Lib.hid (HS1.out.store star p)
    go_wp2_with (first | (refine wpList_load_set rfl _ rfl (w.heap.size + 2) star p rfl HS.out ?_) | (refine wpList_store_set rfl _ _ rfl (w.heap.size + 1) star p rfl rfl _ _ HS1.out ?_))
    refine bodyPost_ret (v := .tuple #[.agg (setCells star p), .int .i64 1]) ?_ rfl ?_
    ·exact results_set (fn := Tryz.f21) (p := 4) (u := 5) rfl _ _ (w.heap.size + 1) _ _ rfl HR2.out
    exact ⟨star, p, 1, rfl, ⟨HF.out.vs, HF.out.bad, HF.out.fine, fun h => absurd rfl h⟩, below_setRow hbr (by omega) _⟩
   ·have hne : (v != 1) = true := by simpa using hv
    have HR2 := Lib.hid (HS1.out.store false noSet);have hv0 : v = 0 ∨ v = 2 := by rcases HF.out.vs with h | h | h <;> omega
    have HV0 := Lib.hid hv0;clear hv hv0
    go_wp2_with (first | (refine wpList_build_set rfl rfl ?_) | (refine wpList_store_set rfl _ _ rfl (w.heap.size + 1) false noSet rfl rfl _ _ HS1.out ?_))
    refine bodyPost_ret (v := .tuple #[.agg (setCells false noSet), .int .i64 v]) ?_ rfl ?_
    ·exact results_set (fn := Tryz.f21) (p := 4) (u := 5) rfl _ _ (w.heap.size + 1) _ _ rfl HR2.out
    exact ⟨false, noSet, v, rfl, item_zero HV0.out HF.out.bad, below_setRow hbr (by omega) _⟩
end Go.Proofs.YtmecbmgfacpecaaGreatDoor.Cron
namespace Go.Proofs.YtmecbmgfacpecaaGreatDoor.Cron
open Go Go.RowKit Go.Proofs.YtmecbmgfacpecaaGreatDoor.Text Go.Proofs.YtmecbmgfacpecaaGreatDoorW.PrintWords Go.Proofs.YtmecbmgfacpecaaGreatDoorW.PrintLast Go.Proofs.YtmecbmgfacpecaaGreatDoorW.PrintMore Go.Proofs.YtmecbmgfacpecaaGreatDoor.Pr
set_option linter.unusedVariables false
def Ev {α : Type} (f : Nat → Option α) (r : α) : Prop := ∃ K, ∀ k, K ≤ k → f k = some r
theorem ev_of {α : Type} {f : Nat → Option α} {r : α} {k : Nat} (hm : ∀ k, LeO (f k) (f (k + 1))) (h : f k = some r) : Ev f r := by
 refine ⟨k, fun k' hk => ?_⟩;obtain ⟨d, rfl⟩ : ∃ d, k' = k + d := ⟨k' - k, by omega⟩
 clear hk
 induction d with
 | zero => exact h
 | succ n ih => exact hm (k + n) r ih
def upN (n : Nat) : Nat := if 97 ≤ n ∧ n ≤ 122 then n - 32 else n
theorem upper_f (n : Nat) (h : n < 256) : spec_cronUpper.f (n : Int) = some ((upN n : Nat) : Int) := by
 unfold spec_cronUpper.f upN
 by_cases h1 : 97 ≤ n
 ·rw [if_pos (by omega)]
  by_cases h2 : n ≤ 122
  ·rw [if_pos (by omega), if_pos ⟨h1, h2⟩]
   congr 1
   omega
  ·rw [if_neg (by omega), if_neg (by omega)]
 ·rw [if_neg (by omega), if_neg (by omega)]
def sameL : List UInt8 → List UInt8 → Bool
 | [], [] => true
 | a :: x, b :: y => (upN a.toNat == upN b.toNat) && sameL x y
 | _, _ => false
theorem same_len : ∀ (a b : List UInt8), sameL a b = true → a.length = b.length
 | [], [], _ => rfl
 | a :: x, b :: y, h => by
  simp only [sameL, Bool.and_eq_true] at h;simp [same_len x y h.2]
 | [], b :: y, h => by cases h
 | a :: x, [], h => by cases h
theorem same_l0 (a s : ByteArray) (ha : a.size ≤ 4294967296) (hl : a.size = s.size) : ∀ (k i : Nat), a.size - i < k → i ≤ a.size → spec_cronSame.l0 k a s (a.size : Int) (i : Int) = some (sameL (a.data.toList.drop i) (s.data.toList.drop i))
 | 0, i, hk, hi => by omega
 | k + 1, i, hk, hi => by
  have h1 := size_list a;have h2 := size_list s;unfold spec_cronSame.l0
  by_cases h : i < a.size
  ·have ha' : i < a.data.toList.length := by omega
   have hs' : i < s.data.toList.length := by omega
   rw [if_pos (by omega), if_pos (by omega), if_pos (by omega), bt_list a i ha', upper_f _ (UInt8.toNat_lt _)];simp only [Option.bind_some];rw [if_pos (by omega), bt_list s i hs', upper_f _ (UInt8.toNat_lt _)];simp only [Option.bind_some];rw [List.drop_eq_getElem_cons ha', List.drop_eq_getElem_cons hs'];simp only [sameL]
   by_cases e : upN (a.data.toList[i]).toNat = upN (s.data.toList[i]).toNat
   ·rw [if_pos (by omega), e]
    have hw : wrap64 ((i : Int) + 1) = ((i + 1 : Nat) : Int) := by
     unfold wrap64;omega
    rw [hw, same_l0 a s ha hl k (i + 1) (by omega) (by omega)];simp
   ·rw [if_neg (by omega)];have : (upN (a.data.toList[i]).toNat == upN (s.data.toList[i]).toNat) = false := by simpa using e
    rw [this];rfl
  ·rw [if_neg (by omega), List.drop_eq_nil_of_le (by omega), List.drop_eq_nil_of_le (by omega)];rfl
theorem same_ev (a s : ByteArray) (ha : a.size ≤ 4294967296) : Ev (fun k => spec_cronSame.f k a s) (sameL a.data.toList s.data.toList) := by
 refine ⟨a.size + 1, fun k hk => ?_⟩;have h1 := size_list a;have h2 := size_list s;simp only [spec_cronSame.f]
 by_cases hl : a.size = s.size
 ·rw [if_pos (by omega)];have := same_l0 a s ha hl k 0 (by omega) (by omega)
  simpa using this
 ·rw [if_neg (by omega)]
  cases h : sameL a.data.toList s.data.toList with
  | true => exact absurd (same_len _ _ h) (by omega)
  | false => rfl
theorem foreign_l0 (s : ByteArray) (hs : s.size ≤ 4294967296) : ∀ (k i : Nat), s.size - i < k → i ≤ s.size → spec_cronForeign.l0 k s (s.size : Int) (i : Int) = some ((s.data.toList.drop i).any fun c => decide (128 ≤ c.toNat))
 | 0, i, hk, hi => by omega
 | k + 1, i, hk, hi => by
  have h1 := size_list s;unfold spec_cronForeign.l0
  by_cases h : i < s.size
  ·have hs' : i < s.data.toList.length := by omega
   rw [if_pos (by omega), if_pos (by omega), if_pos (by omega), bt_list s i hs', List.drop_eq_getElem_cons hs', List.any_cons]
   by_cases e : 128 ≤ (s.data.toList[i]).toNat
   ·rw [if_pos (by omega), decide_eq_true e];rfl
   ·rw [if_neg (by omega), decide_eq_false e, Bool.false_or]
    have hw : wrap64 ((i : Int) + 1) = ((i + 1 : Nat) : Int) := by
     unfold wrap64;omega
    rw [hw, foreign_l0 s hs k (i + 1) (by omega) (by omega)]
  ·rw [if_neg (by omega), List.drop_eq_nil_of_le (by omega)];rfl
theorem foreign_ev (s : ByteArray) (hs : s.size ≤ 4294967296) : Ev (fun k => spec_cronForeign.f k s) (s.data.toList.any fun c => decide (128 ≤ c.toNat)) := by
 refine ⟨s.size + 1, fun k hk => ?_⟩;simp only [spec_cronForeign.f];have := foreign_l0 s hs k 0 (by omega) (by omega)
 simpa using this
def low8 (c : UInt8) : UInt8 := if 65 ≤ c.toNat ∧ c.toNat ≤ 90 then UInt8.ofNat (c.toNat + 32) else c
theorem lowRune_ascii (c : UInt8) (h : c.toNat < 128) : lowRune c.toNat = [low8 c] := by
 unfold lowRune low8
 by_cases h1 : 65 ≤ c.toNat ∧ c.toNat ≤ 90
 ·rw [if_pos h1, if_pos h1]
 ·rw [if_neg h1, if_neg h1, if_neg (by omega), if_neg (by omega), Extern.FmtText.enc1 _ h];simp
theorem lowGo_ascii (s : ByteArray) (ha : ∀ c ∈ s.data.toList, c.toNat < 128) : ∀ (f pos : Nat), s.size ≤ f + pos → lowGo s f pos = (s.data.toList.drop pos).map low8
 | 0, pos, h => by
  have := size_list s;rw [List.drop_eq_nil_of_le (by omega)];rfl
 | f + 1, pos, h => by
  have hz := size_list s;unfold lowGo
  by_cases hlt : pos < s.size
  ·have hl : pos < s.data.toList.length := by omega
   have hc := ha _ (List.getElem_mem hl);rw [if_pos hlt, (dec_at _ hc s pos hlt).1 (List.getElem?_eq_getElem hl), List.drop_eq_getElem_cons hl, List.map_cons];simp only;rw [lowRune_ascii _ hc, lowGo_ascii s ha f (pos + 1) (by omega)];rfl
  ·rw [if_neg hlt, List.drop_eq_nil_of_le (by omega)];rfl
theorem low_ascii (s : ByteArray) (ha : ∀ c ∈ s.data.toList, c.toNat < 128) : lowB s = ba (s.data.toList.map low8) := by
 unfold lowB lowS;rw [lowGo_ascii s ha s.size 0 (by omega)];rfl
theorem up_iff {c d : Nat} (h : 65 ≤ c ∧ c ≤ 90) (hd : d < 256) : upN c = upN d ↔ d = c ∨ d = c + 32 := by
 unfold upN;rw [if_neg (by omega)]
 by_cases h2 : 97 ≤ d ∧ d ≤ 122
 ·rw [if_pos h2]; omega
 ·rw [if_neg h2]; omega
theorem same_low : ∀ (N l : List UInt8), (∀ c ∈ N, 65 ≤ c.toNat ∧ c.toNat ≤ 90) → (sameL N l = true ↔ ((∀ c ∈ l, c.toNat < 128) ∧ l.map low8 = N.map low8))
 | [], [], _ => by simp [sameL]
 | [], b :: y, _ => by simp [sameL]
 | a :: x, [], _ => by simp [sameL]
 | a :: x, b :: y, h => by
  have ha := h a (by simp);have ih := same_low x y (fun c hc => h c (by simp [hc]));have hb := UInt8.toNat_lt b;simp only [sameL, Bool.and_eq_true, beq_iff_eq, List.map_cons, List.cons.injEq, List.forall_mem_cons, ih, up_iff ha hb]
  have key : (b.toNat = a.toNat ∨ b.toNat = a.toNat + 32) ↔ (b.toNat < 128 ∧ low8 b = low8 a) := by
   have e1 : low8 a = UInt8.ofNat (a.toNat + 32) := by unfold low8; rw [if_pos ha]
   have t1 : (UInt8.ofNat (a.toNat + 32)).toNat = a.toNat + 32 := by rw [UInt8.toNat_ofNat']; omega
   constructor
   ·rintro (e | e)
    ·exact ⟨by omega, by rw [u8_eq e]⟩
    ·refine ⟨by omega, ?_⟩;have : low8 b = b := by unfold low8; rw [if_neg (by omega)]
     rw [this, e1];exact u8_eq (by rw [t1, e])
   ·rintro ⟨e1', e2⟩;rw [e1] at e2;have e3 := congrArg UInt8.toNat e2;rw [t1] at e3;unfold low8 at e3
    split at e3
    ·rename_i hbb
     rw [UInt8.toNat_ofNat'] at e3;omega
    ·exact .inr e3
  rw [key]
  constructor
  ·rintro ⟨⟨p, q⟩, r, u⟩; exact ⟨⟨p, r⟩, q, u⟩
  ·rintro ⟨⟨p, r⟩, q, u⟩; exact ⟨⟨p, q⟩, r, u⟩
def ReadsSmall (val : List UInt8 → Option Nat) (kind : Int) : Prop :=
 ∀ s : ByteArray, s.size ≤ 4294967296 → ∃ k n v, spec_CronValue.f k kind s = some (n, v) ∧ ValSays (val s.data.toList) n v ∧ (s.size ≤ 12 → n < 1000000000000)
theorem fold_small : ∀ (l : List UInt8) (n m : Nat), digitsFold n l = some m → m < (n + 1) * 10 ^ l.length
 | [], n, m, h => by
  injection h with h
  simp;omega
 | c :: r, n, m, h => by
  unfold digitsFold at h
  split at h
  ·rename_i hc
   have := fold_small r _ m h;have h2 : min (10 * n + (c.toNat - 48)) 1099511627776 + 1 ≤ (n + 1) * 10 := by omega
   have h3 := Nat.mul_le_mul_right (10 ^ r.length) h2;rw [List.length_cons, Nat.pow_succ, Nat.mul_comm (10 ^ r.length) 10, ← Nat.mul_assoc];omega
  ·cases h
theorem pair_small (r : List UInt8) (v : Int) (h : r.length ≤ 12) : (pairOf r v).1 < 1000000000000 := by
 unfold pairOf
 split
 ·decide
 ·split
  ·rename_i m hm
   have h1 := fold_small _ _ _ hm;have h2 : 10 ^ r.length ≤ 10 ^ 12 := Nat.pow_le_pow_right (by decide) h;simp only;omega
  ·decide
theorem j1_small (s : ByteArray) (hs : s.size ≤ 12) (v : Int) (k : Nat) (hk : s.size + 2 < k) {n w : Int} (h : spec_CronNumber.j1 k s v = some (n, w)) : n < 1000000000000 := by
 rw [number_j1 s (by omega) v k hk] at h
 injection h with h
 have := pair_small s.data.toList v (by rw [← size_list]; exact hs);rw [h] at this;exact this
theorem j0_small (s : ByteArray) (hs : s.size ≤ 12) (v : Int) (b : Bool) (k : Nat) (hk : s.size + 3 < k) {n w : Int} (h : spec_CronNumber.j0 k s v b = some (n, w)) : n < 1000000000000 := by
 obtain ⟨k, rfl⟩ : ∃ m, k = m + 1 := ⟨k - 1, by omega⟩
 simp only [spec_CronNumber.j0] at h;have hx : (s.extract 1 s.size).size ≤ s.size := by rw [ByteArray.size_extract]; omega
 split at h
 ·split at h
  ·exact j1_small _ (by omega) 2 k (by omega) h
  ·cases h
 ·exact j1_small s hs v k (by omega) h
theorem number_small (s : ByteArray) (hs : s.size ≤ 12) {k : Nat} {n v : Int} (h : spec_CronNumber.f k s = some (n, v)) : n < 1000000000000 := by
 obtain ⟨K, hK⟩ := ev_of (spec_CronNumber.mono s) h;have e := hK (K + s.size + 5) (by omega);simp only at e;unfold spec_CronNumber.f at e
 repeat' split at e
 all_goals first
  | exact j0_small s hs _ _ _ (by omega) e
  | (obtain ⟨b, _, hb⟩ := Option.bind_eq_some_iff.1 e; exact j0_small s hs _ _ _ (by omega) hb)
  | cases e
def monthsU : List (ByteArray × Int) := [(⟨#[74, 65, 78]⟩, 1), (⟨#[70, 69, 66]⟩, 2), (⟨#[77, 65, 82]⟩, 3), (⟨#[65, 80, 82]⟩, 4), (⟨#[77, 65, 89]⟩, 5), (⟨#[74, 85, 78]⟩, 6), (⟨#[74, 85, 76]⟩, 7), (⟨#[65, 85, 71]⟩, 8), (⟨#[83, 69, 80]⟩, 9), (⟨#[79, 67, 84]⟩, 10), (⟨#[78, 79, 86]⟩, 11), (⟨#[68, 69, 67]⟩, 12)]
def dowU : List (ByteArray × Int) := [(⟨#[83, 85, 78]⟩, 0), (⟨#[77, 79, 78]⟩, 1), (⟨#[84, 85, 69]⟩, 2), (⟨#[87, 69, 68]⟩, 3), (⟨#[84, 72, 85]⟩, 4), (⟨#[70, 82, 73]⟩, 5), (⟨#[83, 65, 84]⟩, 6)]
def firstN (l : List UInt8) : List (ByteArray × Int) → Option Int
 | [] => none
 | (k, v) :: t => if sameL k.data.toList l = true then some v else firstN l t
def Caps (U : List (ByteArray × Int)) : Prop := ∀ p ∈ U, ∀ c ∈ p.1.data.toList, 65 ≤ c.toNat ∧ c.toNat ≤ 90
def lowP (p : ByteArray × Int) : ByteArray × Int := (ba (p.1.data.toList.map low8), p.2)
theorem first_foreign (l : List UInt8) (hl : ¬ ∀ c ∈ l, c.toNat < 128) : ∀ U, Caps U → firstN l U = none
 | [], _ => rfl
 | (k, v) :: t, h => by
  unfold firstN;rw [if_neg, first_foreign l hl t (fun p hp => h p (by simp [hp]))];intro e;exact hl ((same_low _ _ (h (k, v) (by simp))).1 e).1
theorem first_look (l : List UInt8) (hl : ∀ c ∈ l, c.toNat < 128) : ∀ U, Caps U → lookL (ba (l.map low8)) (U.map lowP) = firstN l U
 | [], _ => rfl
 | (k, v) :: t, h => by
  have ih := first_look l hl t (fun p hp => h p (by simp [hp]));have hs := same_low k.data.toList l (h (k, v) (by simp));simp only [List.map_cons, lowP, lookL, firstN]
  by_cases e : sameL k.data.toList l = true
  ·rw [if_pos e, if_pos (by rw [(hs.1 e).2])]
  ·rw [if_neg e, if_neg, ← ih]
   ·intro h2;exact e (hs.2 ⟨hl, ba_inj h2⟩)
theorem value_l0 (kind hi : Int) (s : ByteArray) (hhigh : spec_CronHigh.f kind = some hi) (rest : Int × Int) (hrest : Ev (fun k => spec_CronValue.j2 k s true) rest) (hh : hi ≤ 100) :
  ∀ (U : List (ByteArray × Int)) (i : Int), (∀ (j : Nat) p, U[j]? = some p → p.2 = i + j ∧ p.1.size ≤ 4294967296 ∧ Ev (fun k => spec_CronName.f k kind (i + j)) p.1) → i + U.length = hi + 1 → 0 ≤ i →
   Ev (fun k => spec_CronValue.l0 k kind s true i) (match firstN s.data.toList U with | some v => (v, 1) | none => rest)
 | [], i, _, he, h0 => by
  obtain ⟨K, hK⟩ := hrest;refine ⟨K + 1, fun k hk => ?_⟩;obtain ⟨k, rfl⟩ : ∃ m, k = m + 1 := ⟨k - 1, by omega⟩
  have h1 := hK k (by omega);simp only [List.length_nil] at he;simp only [spec_CronValue.l0, hhigh, Option.bind_some, firstN];rw [if_neg (by omega)];exact h1
 | (nm, v) :: t, i, hU, he, h0 => by
  obtain ⟨hv, hz, K1, hK1⟩ := hU 0 (nm, v) rfl;obtain ⟨K2, hK2⟩ := same_ev nm s hz;simp only [List.length_cons] at he
  obtain ⟨K3, hK3⟩ := value_l0 kind hi s hhigh rest hrest hh t (i + 1) (fun j p hp => by
   obtain ⟨a, b, c⟩ := hU (j + 1) p (by simpa using hp);refine ⟨by omega, b, ?_⟩;rw [show i + 1 + (j : Int) = i + ((j + 1 : Nat) : Int) by omega];exact c) (by omega) (by omega)
  refine ⟨K1 + K2 + K3 + 1, fun k hk => ?_⟩;obtain ⟨k, rfl⟩ : ∃ m, k = m + 1 := ⟨k - 1, by omega⟩
  have e1 := hK1 k (by omega);have e2 := hK2 k (by omega);have e3 := hK3 k (by omega);simp only [Int.natCast_zero, Int.add_zero] at e1 hv
  simp only at e2 e3
  have hw : wrap64 (i + 1) = i + 1 := by unfold wrap64; omega
  simp only [spec_CronValue.l0, hhigh, Option.bind_some];rw [if_pos (by omega), e1];simp only [Option.bind_some];rw [e2];simp only [Option.bind_some, firstN, hw]
  by_cases e : sameL nm.data.toList s.data.toList = true
  ·rw [if_pos e, if_pos e, hv]
  ·rw [if_neg e, if_neg e];exact e3
theorem months_caps : Caps monthsU := by
 intro p hp c hc;simp only [monthsU, List.mem_cons, List.not_mem_nil, or_false] at hp
 rcases hp with rfl | rfl | rfl | rfl | rfl | rfl | rfl | rfl | rfl | rfl | rfl | rfl <;> (simp only [List.mem_cons, List.not_mem_nil, or_false] at hc; rcases hc with rfl | rfl | rfl <;> decide)
theorem months_lowP : monthsL = monthsU.map lowP := by decide
theorem months_name : ∀ (j : Nat) p, monthsU[j]? = some p → p.2 = (1 : Int) + j ∧ p.1.size ≤ 4294967296 ∧ Ev (fun k => spec_CronName.f k 4 (1 + j)) p.1
 | 0, p, h => by
  cases h
  exact ⟨by decide, by decide, ev_of (k := 2) (spec_CronName.mono _ _) (by simp [spec_CronName.f, spec_CronName.j0, spec_CronName.j1, toList_data, spec_CronLow.f, spec_CronHigh.f, wrap64]; first | done | rfl | decide)⟩
 | 1, p, h => by
  cases h
  exact ⟨by decide, by decide, ev_of (k := 2) (spec_CronName.mono _ _) (by simp [spec_CronName.f, spec_CronName.j0, spec_CronName.j1, toList_data, spec_CronLow.f, spec_CronHigh.f, wrap64]; first | done | rfl | decide)⟩
 | 2, p, h => by
  cases h
  exact ⟨by decide, by decide, ev_of (k := 2) (spec_CronName.mono _ _) (by simp [spec_CronName.f, spec_CronName.j0, spec_CronName.j1, toList_data, spec_CronLow.f, spec_CronHigh.f, wrap64]; first | done | rfl | decide)⟩
 | 3, p, h => by
  cases h
  exact ⟨by decide, by decide, ev_of (k := 2) (spec_CronName.mono _ _) (by simp [spec_CronName.f, spec_CronName.j0, spec_CronName.j1, toList_data, spec_CronLow.f, spec_CronHigh.f, wrap64]; first | done | rfl | decide)⟩
 | 4, p, h => by
  cases h
  exact ⟨by decide, by decide, ev_of (k := 2) (spec_CronName.mono _ _) (by simp [spec_CronName.f, spec_CronName.j0, spec_CronName.j1, toList_data, spec_CronLow.f, spec_CronHigh.f, wrap64]; first | done | rfl | decide)⟩
 | 5, p, h => by
  cases h
  exact ⟨by decide, by decide, ev_of (k := 2) (spec_CronName.mono _ _) (by simp [spec_CronName.f, spec_CronName.j0, spec_CronName.j1, toList_data, spec_CronLow.f, spec_CronHigh.f, wrap64]; first | done | rfl | decide)⟩
 | 6, p, h => by
  cases h
  exact ⟨by decide, by decide, ev_of (k := 2) (spec_CronName.mono _ _) (by simp [spec_CronName.f, spec_CronName.j0, spec_CronName.j1, toList_data, spec_CronLow.f, spec_CronHigh.f, wrap64]; first | done | rfl | decide)⟩
 | 7, p, h => by
  cases h
  exact ⟨by decide, by decide, ev_of (k := 2) (spec_CronName.mono _ _) (by simp [spec_CronName.f, spec_CronName.j0, spec_CronName.j1, toList_data, spec_CronLow.f, spec_CronHigh.f, wrap64]; first | done | rfl | decide)⟩
 | 8, p, h => by
  cases h
  exact ⟨by decide, by decide, ev_of (k := 2) (spec_CronName.mono _ _) (by simp [spec_CronName.f, spec_CronName.j0, spec_CronName.j1, toList_data, spec_CronLow.f, spec_CronHigh.f, wrap64]; first | done | rfl | decide)⟩
 | 9, p, h => by
  cases h
  exact ⟨by decide, by decide, ev_of (k := 2) (spec_CronName.mono _ _) (by simp [spec_CronName.f, spec_CronName.j0, spec_CronName.j1, toList_data, spec_CronLow.f, spec_CronHigh.f, wrap64]; first | done | rfl | decide)⟩
 | 10, p, h => by
  cases h
  exact ⟨by decide, by decide, ev_of (k := 2) (spec_CronName.mono _ _) (by simp [spec_CronName.f, spec_CronName.j0, spec_CronName.j1, toList_data, spec_CronLow.f, spec_CronHigh.f, wrap64]; first | done | rfl | decide)⟩
 | 11, p, h => by
  cases h
  exact ⟨by decide, by decide, ev_of (k := 2) (spec_CronName.mono _ _) (by simp [spec_CronName.f, spec_CronName.j0, spec_CronName.j1, toList_data, spec_CronLow.f, spec_CronHigh.f, wrap64]; first | done | rfl | decide)⟩
 | j + 12, p, h => by cases h
theorem value_months : ReadsSmall (valN monthsL) 4 := by
 intro s hs;have hlow : spec_CronLow.f 4 = some 1 := rfl;have hhigh : spec_CronHigh.f 4 = some 12 := rfl;obtain ⟨kn, n, v, hk, hv⟩ := number_is s hs;obtain ⟨K1, hN⟩ := ev_of (spec_CronNumber.mono s) hk;obtain ⟨K2, hF⟩ := foreign_ev s hs
 by_cases ha : ∀ c ∈ s.data.toList, c.toNat < 128
 ·have hfo : (s.data.toList.any fun c => decide (128 ≤ c.toNat)) = false := by
   rw [List.any_eq_false];intro c hc;have := ha c hc;simp; omega
  rw [hfo] at hF
  have hrest : Ev (fun k => spec_CronValue.j2 k s true) (n, v) := ⟨K1 + K2 + 1, fun k hk => by
   obtain ⟨k, rfl⟩ : ∃ m, k = m + 1 := ⟨k - 1, by omega⟩
   have e1 := hN k (by omega);have e2 := hF k (by omega);simp only at e1 e2
   simp only [spec_CronValue.j2, if_true, e2, Option.bind_some, e1, Bool.false_eq_true, if_false]⟩
  obtain ⟨K, hK⟩ := value_l0 4 12 s hhigh (n, v) hrest (by omega) monthsU 1 months_name (by decide) (by omega);have e := hK K (Nat.le_refl _);have hl : lookL (lowB s) monthsL = firstN s.data.toList monthsU := by rw [low_ascii s ha, months_lowP]; exact first_look _ ha _ months_caps
  have hval : ∀ r, spec_CronValue.l0 K 4 s true 1 = some r → spec_CronValue.f (K + 1) 4 s = some r := by
   intro r hr;unfold spec_CronValue.f;simp [spec_CronValue.j0, hlow, hr]
  unfold valN;rw [ba_of, hl]
  cases hf : firstN s.data.toList monthsU with
  | some x =>
   rw [hf] at e;have hb := months_small _ (look_mem _ _ _ (hl.trans hf));exact ⟨K + 1, x, 1, hval _ e, ⟨hb.1, by omega, by omega, fun _ => .inl ⟨x.toNat, rfl, by omega⟩, fun h => by omega⟩, fun _ => by have := hb.2; simp only at this; omega⟩
  | none =>
   rw [hf] at e;exact ⟨K + 1, n, v, hval _ e, hv.says, fun h => number_small s h hk⟩
 ·have hfo : (s.data.toList.any fun c => decide (128 ≤ c.toNat)) = true := by
   rw [List.any_eq_true]
   apply Classical.byContradiction
   intro h;exact ha fun c hc => Classical.byContradiction fun h2 => h ⟨c, hc, by simp; omega⟩
  rw [hfo] at hF
  have hrest : Ev (fun k => spec_CronValue.j2 k s true) (0, 2) := ⟨K2 + 1, fun k hk => by
   obtain ⟨k, rfl⟩ : ∃ m, k = m + 1 := ⟨k - 1, by omega⟩
   have e2 := hF k (by omega);simp only at e2;simp only [spec_CronValue.j2, if_true, e2, Option.bind_some]⟩
  obtain ⟨K, hK⟩ := value_l0 4 12 s hhigh (0, 2) hrest (by omega) monthsU 1 months_name (by decide) (by omega);have e := hK K (Nat.le_refl _);rw [first_foreign _ ha _ months_caps] at e;refine ⟨K + 1, 0, 2, ?_, ⟨by omega, by omega, by omega, fun h => by omega, fun h => by omega⟩, fun _ => by omega⟩;unfold spec_CronValue.f;simp only at e;simp [spec_CronValue.j0, hlow, e]
theorem dow_caps : Caps dowU := by
 intro p hp c hc;simp only [dowU, List.mem_cons, List.not_mem_nil, or_false] at hp
 rcases hp with rfl | rfl | rfl | rfl | rfl | rfl | rfl <;> (simp only [List.mem_cons, List.not_mem_nil, or_false] at hc; rcases hc with rfl | rfl | rfl <;> decide)
theorem dow_lowP : dowL = dowU.map lowP := by decide
theorem dow_name : ∀ (j : Nat) p, dowU[j]? = some p → p.2 = (0 : Int) + j ∧ p.1.size ≤ 4294967296 ∧ Ev (fun k => spec_CronName.f k 5 (0 + j)) p.1
 | 0, p, h => by
  cases h
  exact ⟨by decide, by decide, ev_of (k := 2) (spec_CronName.mono _ _) (by simp [spec_CronName.f, spec_CronName.j0, spec_CronName.j1, toList_data, spec_CronLow.f, spec_CronHigh.f, wrap64]; first | done | rfl | decide)⟩
 | 1, p, h => by
  cases h
  exact ⟨by decide, by decide, ev_of (k := 2) (spec_CronName.mono _ _) (by simp [spec_CronName.f, spec_CronName.j0, spec_CronName.j1, toList_data, spec_CronLow.f, spec_CronHigh.f, wrap64]; first | done | rfl | decide)⟩
 | 2, p, h => by
  cases h
  exact ⟨by decide, by decide, ev_of (k := 2) (spec_CronName.mono _ _) (by simp [spec_CronName.f, spec_CronName.j0, spec_CronName.j1, toList_data, spec_CronLow.f, spec_CronHigh.f, wrap64]; first | done | rfl | decide)⟩
 | 3, p, h => by
  cases h
  exact ⟨by decide, by decide, ev_of (k := 2) (spec_CronName.mono _ _) (by simp [spec_CronName.f, spec_CronName.j0, spec_CronName.j1, toList_data, spec_CronLow.f, spec_CronHigh.f, wrap64]; first | done | rfl | decide)⟩
 | 4, p, h => by
  cases h
  exact ⟨by decide, by decide, ev_of (k := 2) (spec_CronName.mono _ _) (by simp [spec_CronName.f, spec_CronName.j0, spec_CronName.j1, toList_data, spec_CronLow.f, spec_CronHigh.f, wrap64]; first | done | rfl | decide)⟩
 | 5, p, h => by
  cases h
  exact ⟨by decide, by decide, ev_of (k := 2) (spec_CronName.mono _ _) (by simp [spec_CronName.f, spec_CronName.j0, spec_CronName.j1, toList_data, spec_CronLow.f, spec_CronHigh.f, wrap64]; first | done | rfl | decide)⟩
 | 6, p, h => by
  cases h
  exact ⟨by decide, by decide, ev_of (k := 2) (spec_CronName.mono _ _) (by simp [spec_CronName.f, spec_CronName.j0, spec_CronName.j1, toList_data, spec_CronLow.f, spec_CronHigh.f, wrap64]; first | done | rfl | decide)⟩
 | j + 7, p, h => by cases h
theorem value_dow : ReadsSmall (valN dowL) 5 := by
 intro s hs;have hlow : spec_CronLow.f 5 = some 0 := rfl;have hhigh : spec_CronHigh.f 5 = some 6 := rfl;obtain ⟨kn, n, v, hk, hv⟩ := number_is s hs;obtain ⟨K1, hN⟩ := ev_of (spec_CronNumber.mono s) hk;obtain ⟨K2, hF⟩ := foreign_ev s hs
 by_cases ha : ∀ c ∈ s.data.toList, c.toNat < 128
 ·have hfo : (s.data.toList.any fun c => decide (128 ≤ c.toNat)) = false := by
   rw [List.any_eq_false];intro c hc;have := ha c hc;simp; omega
  rw [hfo] at hF
  have hrest : Ev (fun k => spec_CronValue.j2 k s true) (n, v) := ⟨K1 + K2 + 1, fun k hk => by
   obtain ⟨k, rfl⟩ : ∃ m, k = m + 1 := ⟨k - 1, by omega⟩
   have e1 := hN k (by omega);have e2 := hF k (by omega);simp only at e1 e2
   simp only [spec_CronValue.j2, if_true, e2, Option.bind_some, e1, Bool.false_eq_true, if_false]⟩
  obtain ⟨K, hK⟩ := value_l0 5 6 s hhigh (n, v) hrest (by omega) dowU 0 dow_name (by decide) (by omega);have e := hK K (Nat.le_refl _);have hl : lookL (lowB s) dowL = firstN s.data.toList dowU := by rw [low_ascii s ha, dow_lowP]; exact first_look _ ha _ dow_caps
  have hval : ∀ r, spec_CronValue.l0 K 5 s true 0 = some r → spec_CronValue.f (K + 1) 5 s = some r := by
   intro r hr;unfold spec_CronValue.f;simp [spec_CronValue.j0, hlow, hr]
  unfold valN;rw [ba_of, hl]
  cases hf : firstN s.data.toList dowU with
  | some x =>
   rw [hf] at e;have hb := dow_small _ (look_mem _ _ _ (hl.trans hf));exact ⟨K + 1, x, 1, hval _ e, ⟨hb.1, by omega, by omega, fun _ => .inl ⟨x.toNat, rfl, by omega⟩, fun h => by omega⟩, fun _ => by have := hb.2; simp only at this; omega⟩
  | none =>
   rw [hf] at e;exact ⟨K + 1, n, v, hval _ e, hv.says, fun h => number_small s h hk⟩
 ·have hfo : (s.data.toList.any fun c => decide (128 ≤ c.toNat)) = true := by
   rw [List.any_eq_true]
   apply Classical.byContradiction
   intro h;exact ha fun c hc => Classical.byContradiction fun h2 => h ⟨c, hc, by simp; omega⟩
  rw [hfo] at hF
  have hrest : Ev (fun k => spec_CronValue.j2 k s true) (0, 2) := ⟨K2 + 1, fun k hk => by
   obtain ⟨k, rfl⟩ : ∃ m, k = m + 1 := ⟨k - 1, by omega⟩
   have e2 := hF k (by omega);simp only at e2;simp only [spec_CronValue.j2, if_true, e2, Option.bind_some]⟩
  obtain ⟨K, hK⟩ := value_l0 5 6 s hhigh (0, 2) hrest (by omega) dowU 0 dow_name (by decide) (by omega);have e := hK K (Nat.le_refl _);rw [first_foreign _ ha _ dow_caps] at e;refine ⟨K + 1, 0, 2, ?_, ⟨by omega, by omega, by omega, fun h => by omega, fun h => by omega⟩, fun _ => by omega⟩;unfold spec_CronValue.f;simp only at e;simp [spec_CronValue.j0, hlow, e]
theorem value_plain_small {kind : Int} (h4 : kind ≠ 4) (h5 : kind ≠ 5) : ReadsSmall mp kind := by
 intro s hs;obtain ⟨k, n, v, hk, hv⟩ := number_is s hs;refine ⟨k + 2, n, v, ?_, hv.says, fun h => number_small s h hk⟩;unfold spec_CronValue.f;rw [if_neg h4];simp only [spec_CronValue.j0, spec_CronValue.j2];have : (kind == 5) = false := by simpa using h5
 rw [this];simp only [Bool.false_eq_true, if_false];rw [hk];rfl
theorem value_small (k : Nat) (hk : k < 6) : ReadsSmall (valK k) k := by
 unfold valK
 by_cases h4 : k = 4
 ·subst h4;exact value_months
 ·rw [if_neg h4]
  by_cases h5 : k = 5
  ·subst h5;exact value_dow
  ·rw [if_neg h5];exact value_plain_small (by omega) (by omega)
theorem value_reads (k : Nat) (hk : k < 6) : ReadsLike (valK k) k := fun s hs => by
 obtain ⟨K, n, v, h, hv, _⟩ := value_small k hk s hs;exact ⟨K, n, v, h, hv⟩
end Go.Proofs.YtmecbmgfacpecaaGreatDoor.Cron
