/- Lemmas and walks on the way to the law, merged by wip/tools/pack.py: Takes, FillS, CronFill, Union, FieldMid, CronField. Conditions: none. -/
import Derived.Test.YtmecbmgfacpecaaGreatDoorGrH
set_option linter.unusedVariables false
set_option linter.unusedSimpArgs false
namespace Go.Proofs.YtmecbmgfacpecaaGreatDoor.Cron
open Go Go.RowKit Go.Proofs.YtmecbmgfacpecaaGreatDoor.Text Go.Proofs.YtmecbmgfacpecaaGreatDoor.Bits
def maskK (k : Nat) : Nat := if k = 0 then 3 else if k = 1 then 4 else if k = 2 then 8 else if k = 3 then 16 else if k = 4 then 32 else 192
def takeB (o k : Nat) : Bool := !decide (o &&& maskK k = 0)
theorem neq_zero (x : Nat) : ((x : Int) != 0) = !decide (x = 0) := by
 by_cases h : x = 0
 ·subst h; rfl
 ·rw [decide_eq_false h];simpa using h
theorem takes_any (o : Nat) (ho : o < 512) (k : Nat) (hk : k < 6) (w : World) :
  Calls Tryz.prog 78 #[.int .i64 o, .int .i64 k] w fun e w' => e = .returned (.bool (takeB o k)) ∧ Below w.heap.size w w' := by
 have hk6 : k = 0 ∨ k = 1 ∨ k = 2 ∨ k = 3 ∨ k = 4 ∨ k = 5 := by omega
 rcases hk6 with rfl | rfl | rfl | rfl | rfl | rfl
 ·have hand : bits .and .i64 (o : Int) 3 = ((o &&& 3 : Nat) : Int) := and_i64 (b := 3) (by omega) (by decide);have e : (((o &&& 3 : Nat) : Int) != 0) = takeB o 0 := neq_zero _;have E := Lib.hid e;clear e;go_enter Tryz.func78, Tryz.ntmps78;go_wp2_with fail
  go_ret;refine ⟨?_, (Below.refl _ _).alloc (Nat.le_refl _) _⟩;simp [hand, E.out]
 ·have hand : bits .and .i64 (o : Int) 4 = ((o &&& 4 : Nat) : Int) := and_i64 (b := 4) (by omega) (by decide);have e : (((o &&& 4 : Nat) : Int) != 0) = takeB o 1 := neq_zero _;have E := Lib.hid e;clear e;go_enter Tryz.func78, Tryz.ntmps78;go_wp2_with fail
  go_ret;refine ⟨?_, (Below.refl _ _).alloc (Nat.le_refl _) _⟩;simp [hand, E.out]
 ·have hand : bits .and .i64 (o : Int) 8 = ((o &&& 8 : Nat) : Int) := and_i64 (b := 8) (by omega) (by decide);have e : (((o &&& 8 : Nat) : Int) != 0) = takeB o 2 := neq_zero _;have E := Lib.hid e;clear e;go_enter Tryz.func78, Tryz.ntmps78;go_wp2_with fail
  go_ret;refine ⟨?_, (Below.refl _ _).alloc (Nat.le_refl _) _⟩;simp [hand, E.out]
 ·have hand : bits .and .i64 (o : Int) 16 = ((o &&& 16 : Nat) : Int) := and_i64 (b := 16) (by omega) (by decide);have e : (((o &&& 16 : Nat) : Int) != 0) = takeB o 3 := neq_zero _;have E := Lib.hid e;clear e;go_enter Tryz.func78, Tryz.ntmps78;go_wp2_with fail
  go_ret;refine ⟨?_, (Below.refl _ _).alloc (Nat.le_refl _) _⟩;simp [hand, E.out]
 ·have hand : bits .and .i64 (o : Int) 32 = ((o &&& 32 : Nat) : Int) := and_i64 (b := 32) (by omega) (by decide);have e : (((o &&& 32 : Nat) : Int) != 0) = takeB o 4 := neq_zero _;have E := Lib.hid e;clear e;go_enter Tryz.func78, Tryz.ntmps78;go_wp2_with fail
  go_ret;refine ⟨?_, (Below.refl _ _).alloc (Nat.le_refl _) _⟩;simp [hand, E.out]
 ·have hand : bits .and .i64 (o : Int) 192 = ((o &&& 192 : Nat) : Int) := and_i64 (b := 192) (by omega) (by decide);have e : (((o &&& 192 : Nat) : Int) != 0) = takeB o 5 := neq_zero _;have E := Lib.hid e;clear e;go_enter Tryz.func78, Tryz.ntmps78;go_wp2_with fail
  go_ret;refine ⟨?_, (Below.refl _ _).alloc (Nat.le_refl _) _⟩;simp [hand, E.out]
def takenC (o : Nat) : Nat → Nat
 | 0 => 0
 | k + 1 => takenC o k + (if takeB o k then 1 else 0)
theorem takenC_le (o : Nat) : ∀ k, takenC o k ≤ k
 | 0 => Nat.le_refl _
 | k + 1 => by
  have := takenC_le o k;unfold takenC;split <;> omega
def fillB : List Bool → List ByteArray → List ByteArray → List ByteArray
 | b :: bs, d :: ds, fs => if b = true then (match fs with | f :: fs => f :: fillB bs ds fs | [] => d :: fillB bs ds []) else d :: fillB bs ds fs
 | _, _, _ => []
theorem fillL_B (q : Nat) : ∀ (ps : List Nat) (ds fs : List ByteArray), fillL q ps ds fs = fillB (ps.map fun p => decide (0 < q &&& p)) ds fs
 | [], _, _ => by unfold fillL fillB; rfl
 | p :: ps, [], _ => by unfold fillL fillB; rfl
 | p :: ps, d :: ds, fs => by
  unfold fillL;rw [List.map_cons];unfold fillB;by_cases h : 0 < q &&& p
  ·rw [if_pos h, if_pos (decide_eq_true h)];cases fs with
   | nil => simp only [fillL_B q ps ds []]
   | cons f fs => simp only [fillL_B q ps ds fs]
  ·rw [if_neg h, if_neg (by rw [decide_eq_false h]; decide), fillL_B q ps ds fs]
def cnt (bs : List Bool) : Nat := (bs.filter id).length
theorem cnt_cons (b : Bool) (bs : List Bool) : cnt (b :: bs) = (if b = true then 1 else 0) + cnt bs := by
 unfold cnt;cases b <;> simp [Nat.add_comm]
theorem fillB_len : ∀ (bs : List Bool) (ds fs : List ByteArray), bs.length = ds.length → (fillB bs ds fs).length = bs.length
 | [], [], _, _ => rfl
 | b :: bs, d :: ds, fs, h => by
  have h' : bs.length = ds.length := by simpa using h
  unfold fillB;cases b
  ·simp [fillB_len bs ds fs h']
  ·cases fs with
   | nil => simp [fillB_len bs ds [] h']
   | cons f fs => simp [fillB_len bs ds fs h']
theorem fillB_at : ∀ (bs : List Bool) (ds fs : List ByteArray) (i : Nat) (h : i < bs.length), bs.length = ds.length → cnt bs ≤ fs.length →
  (fillB bs ds fs)[i]? = if bs[i] = true then fs[cnt (bs.take i)]? else ds[i]?
 | b :: bs, d :: ds, fs, i, h, hl, hc => by
  have hl' : bs.length = ds.length := by simpa using hl
  rw [cnt_cons] at hc;unfold fillB;cases b with
  | true =>
   rw [if_pos rfl] at hc ⊢
   cases fs with
   | nil => exact absurd hc (by simp; try omega)
   | cons f fs =>
    cases i with
    | zero => simp [cnt]
    | succ i =>
     have hi : i < bs.length := by simpa using h
     have ih := fillB_at bs ds fs i hi hl' (by simp at hc; omega);simp only [List.getElem?_cons_succ, List.getElem_cons_succ, List.take_succ_cons, cnt_cons, if_true];rw [ih, Nat.add_comm 1, List.getElem?_cons_succ]
  | false =>
   rw [if_neg (by decide)] at hc ⊢
   cases i with
   | zero => simp
   | succ i =>
    have hi : i < bs.length := by simpa using h
    have ih := fillB_at bs ds fs i hi hl' (by omega);simp only [List.getElem?_cons_succ, List.getElem_cons_succ, List.take_succ_cons, cnt_cons];rw [ih];simp
theorem fillB_last (d x : ByteArray) : ∀ (bs : List Bool) (ds fs : List ByteArray), bs.length = ds.length → cnt bs = fs.length → fillB (bs ++ [true]) (ds ++ [d]) (fs ++ [x]) = fillB bs ds fs ++ [x]
 | [], [], fs, _, h => by
  have : fs = [] := List.length_eq_zero_iff.1 (by simpa [cnt] using h.symm);subst this;rfl
 | b :: bs, e :: ds, fs, hl, h => by
  have hl' : bs.length = ds.length := by simpa using hl
  rw [cnt_cons] at h;simp only [List.cons_append];unfold fillB;cases b with
  | true =>
   rw [if_pos rfl] at h;rw [if_pos rfl, if_pos rfl];cases fs with
   | nil => exact absurd h (by simp; try omega)
   | cons f fs =>
    simp only [List.cons_append];rw [fillB_last d x bs ds fs hl' (by simp at h; omega)]
  | false =>
   rw [if_neg (by decide)] at h;rw [if_neg (by decide), if_neg (by decide), fillB_last d x bs ds fs hl' (by omega)];rfl
theorem fillB_off (d : ByteArray) : ∀ (bs : List Bool) (ds fs : List ByteArray), bs.length = ds.length → cnt bs ≤ fs.length → fillB (bs ++ [false]) (ds ++ [d]) fs = fillB bs ds fs ++ [d]
 | [], [], fs, _, h => rfl
 | b :: bs, e :: ds, fs, hl, h => by
  have hl' : bs.length = ds.length := by simpa using hl
  rw [cnt_cons] at h;simp only [List.cons_append];unfold fillB;cases b with
  | true =>
   rw [if_pos rfl] at h;rw [if_pos rfl, if_pos rfl];cases fs with
   | nil => exact absurd h (by simp; try omega)
   | cons f fs =>
    simp only;rw [fillB_off d bs ds fs hl' (by simp at h; omega)];rfl
  | false =>
   rw [if_neg (by decide)] at h;rw [if_neg (by decide), if_neg (by decide), fillB_off d bs ds fs hl' (by omega)];rfl
def missN (o : Nat) : Nat := if 0 < o &&& 2 then 0 else if 0 < o &&& 128 then 5 else 6
def takesL (o m : Nat) : List Bool := [takeB o 0 && !decide (0 = m), takeB o 1 && !decide (1 = m), takeB o 2 && !decide (2 = m), takeB o 3 && !decide (3 = m), takeB o 4 && !decide (4 = m), takeB o 5 && !decide (5 = m)]
def fillS (fs : List ByteArray) (o : Nat) : Option (List ByteArray) :=
 if fs.length = takenC o 6 then some (fillB (takesL o 6) defaultsL fs)
 else if missN o = 6 ∨ fs.length + 1 ≠ takenC o 6 then none
 else some (fillB (takesL o (missN o)) defaultsL fs)
def optsFit (o : Nat) : Bool :=
 (0 < o &&& 128 && 0 < o &&& 2) || (decide (takenN (optAll o) placesL = takenC o 6) && decide ((placesL.map fun p => decide (0 < optAll o &&& p)) = takesL o 6) && decide (cnt (takesL o 6) = takenC o 6) &&
  decide (nOpt o = if missN o = 6 then 0 else 1) && decide (missN o = 0 ∨ missN o = 5 ∨ missN o = 6) && decide (missN o = 0 → takeB o 0 = true) && decide (missN o = 5 → takeB o 5 = true ∧ 0 < optAll o &&& 128) && decide (missN o = 0 → ¬ 0 < optAll o &&& 128) &&
  decide (missN o ≠ 6 → 1 ≤ takenC o 6))
set_option maxRecDepth 100000 in
theorem opts_all : ∀ o : Fin 512, optsFit o.val = true := by decide +kernel
theorem norm_is (fs : List ByteArray) (o : Nat) (ho : o < 512) (h2 : ¬ (0 < o &&& 128 ∧ 0 < o &&& 2)) : normF fs o = fillS fs o := by
 have hfit := opts_all ⟨o, ho⟩;simp only [optsFit, Bool.or_eq_true, Bool.and_eq_true, decide_eq_true_eq] at hfit;rcases hfit with hfit | hfit
 ·exact absurd hfit h2
 obtain ⟨⟨⟨⟨⟨⟨⟨⟨a1, a2⟩, a3⟩, a4⟩, a5⟩, a6⟩, a7⟩, a8⟩, a9⟩ := hfit;unfold normF fillS;rw [a1, a4];by_cases hm : missN o = 6
 ·rw [if_pos hm, if_neg (show ¬ (1 < 0) by omega)];by_cases hl : fs.length = takenC o 6
  ·rw [if_pos hl, if_neg (show ¬ (fs.length < takenC o 6 - 0 ∨ takenC o 6 < fs.length) by omega), if_neg (show ¬ (0 < 0 ∧ fs.length = takenC o 6 - 0) by omega), fillL_B, a2]
  ·rw [if_neg hl, if_pos (show missN o = 6 ∨ fs.length + 1 ≠ takenC o 6 from .inl hm), if_pos (show fs.length < takenC o 6 - 0 ∨ takenC o 6 < fs.length by omega)]
 ·have h1 := a9 hm;rw [if_neg hm, if_neg (show ¬ (1 < 1) by omega)];by_cases hl : fs.length = takenC o 6
  ·rw [if_pos hl, if_neg (show ¬ (fs.length < takenC o 6 - 1 ∨ takenC o 6 < fs.length) by omega), if_neg (show ¬ (0 < 1 ∧ fs.length = takenC o 6 - 1) by omega), fillL_B, a2]
  ·rw [if_neg hl];by_cases hl1 : fs.length + 1 = takenC o 6
   ·rw [if_neg (show ¬ (fs.length < takenC o 6 - 1 ∨ takenC o 6 < fs.length) by omega), if_neg (show ¬ (missN o = 6 ∨ fs.length + 1 ≠ takenC o 6) from fun h => by rcases h with h | h <;> omega), if_pos (show 0 < 1 ∧ fs.length = takenC o 6 - 1 from ⟨by omega, by omega⟩)];congr 1
    rcases a5 with h0 | h5 | h6
    ·rw [if_neg (a8 h0), fillL_B, a2, h0];have ht := a6 h0;unfold takesL;rw [ht];rfl
    ·rw [if_pos (a7 h5).2, fillL_B, a2, h5];have ht := (a7 h5).1
     have hc : cnt (takesL o 6) = cnt [takeB o 0, takeB o 1, takeB o 2, takeB o 3, takeB o 4] + 1 := by
      unfold takesL;rw [ht];generalize takeB o 0 = b0;generalize takeB o 1 = b1;generalize takeB o 2 = b2;generalize takeB o 3 = b3;generalize takeB o 4 = b4;cases b0 <;> cases b1 <;> cases b2 <;> cases b3 <;> cases b4 <;> rfl
     have e1 : takesL o 6 = [takeB o 0, takeB o 1, takeB o 2, takeB o 3, takeB o 4] ++ [true] := by
      unfold takesL;rw [ht];simp
     have e2 : takesL o 5 = [takeB o 0, takeB o 1, takeB o 2, takeB o 3, takeB o 4] ++ [false] := by
      unfold takesL;rw [ht];simp
     have e3 : defaultsL = [⟨#[48]⟩, ⟨#[48]⟩, ⟨#[48]⟩, ⟨#[42]⟩, ⟨#[42]⟩] ++ [⟨#[42]⟩] := rfl;rw [e1, e2, e3, fillB_last _ _ _ _ _ rfl (by omega), fillB_off _ _ _ _ rfl (by omega)]
    ·exact absurd h6 hm
   ·rw [if_pos (show fs.length < takenC o 6 - 1 ∨ takenC o 6 < fs.length by omega), if_pos (show missN o = 6 ∨ fs.length + 1 ≠ takenC o 6 from .inr hl1)]
end Go.Proofs.YtmecbmgfacpecaaGreatDoor.Cron
namespace Go.Proofs.YtmecbmgfacpecaaGreatDoor.Cron
open Go Go.RowKit Go.Proofs.YtmecbmgfacpecaaGreatDoor.Text Go.Proofs.YtmecbmgfacpecaaGreatDoor.Bits Go.Proofs.YtmecbmgfacpecaaGreatDoorW.PrintWords Go.Proofs.YtmecbmgfacpecaaGreatDoorW.PrintLast Go.Proofs.YtmecbmgfacpecaaGreatDoorW.PrintMore Go.Proofs.YtmecbmgfacpecaaGreatDoor.Pr
theorem two_f : ∀ o : Fin 512, spec_CronTwoOptional.f (o.val : Int) = some (twoB o.val) := by decide +kernel
def mI (m : Nat) : Int := if m = 6 then -1 else (m : Int)
theorem miss_f : ∀ o : Fin 512, spec_CronMayMiss.f (o.val : Int) = some (mI (missN o.val)) := by decide +kernel
theorem default_f : ∀ k : Fin 6, spec_CronDefault.f (k.val : Int) = some (defaultsL.getD k.val ⟨#[]⟩) := by decide +kernel
def SliceOf (w : World) (A : Option Addr) (fs : List ByteArray) : Prop := ∀ (i : Nat) (x : ByteArray), fs[i]? = some x → ∃ g, A = some ⟨g, 0, none⟩ ∧ g < w.heap.size ∧ w.cell? ⟨g, i, none⟩ = some (.string x)
theorem SliceOf.below {w w' : World} {A : Option Addr} {fs : List ByteArray} (h : SliceOf w A fs) (hb : Below w.heap.size w w') : SliceOf w' A fs := fun i x hx => by
 obtain ⟨g, h1, h2, h3⟩ := h i x hx;exact ⟨g, h1, Nat.lt_of_lt_of_le h2 hb.size, (hb.cell (p := ⟨g, i, none⟩) h2).trans h3⟩
def FillAns (w : World) (r : Option (List ByteArray)) (e : Ending) (w' : World) : Prop :=
 (match r with
  | some l => ∃ g, e = .returned (.tuple #[.slice (some ⟨g, 0, none⟩) 6 6, .bool true]) ∧ w.heap.size ≤ g ∧ Texts w' g 6 6 l
  | none => e = .returned (.tuple #[.slice none 0 0, .bool false])) ∧ Below w.heap.size w w'
theorem takesL_at (o m k : Nat) (hk : k < 6) : ∃ h : k < (takesL o m).length, (takesL o m)[k] = (takeB o k && !decide (k = m)) := by
 refine ⟨by simpa [takesL] using hk, ?_⟩;have : k = 0 ∨ k = 1 ∨ k = 2 ∨ k = 3 ∨ k = 4 ∨ k = 5 := by omega
 rcases this with rfl | rfl | rfl | rfl | rfl | rfl <;> rfl
theorem cnt_take (bs : List Bool) (k : Nat) (h : k < bs.length) : cnt (bs.take (k + 1)) = cnt (bs.take k) + (if bs[k] = true then 1 else 0) := by
 unfold cnt;rw [List.take_add_one, List.getElem?_eq_getElem h];simp only [Option.toList_some, List.filter_append, List.length_append];cases bs[k] <;> rfl
theorem cnt_take_le (bs : List Bool) (k : Nat) : cnt (bs.take k) ≤ cnt bs := List.Sublist.length_le (List.Sublist.filter _ (List.take_sublist k bs))
def rowF (F : List ByteArray) (k : Nat) : List ByteArray := F.take k ++ List.replicate (6 - k) ⟨#[]⟩
theorem rowF_set {F : List ByteArray} {k : Nat} (x y : ByteArray) (hk : k < 6) (hF : F.length = 6) (h : F[k]? = some x) : ((rowF F k).set k y).set k x = rowF F (k + 1) := by
 unfold rowF;rw [List.set_set, List.take_add_one, h, Option.toList_some];have ht : (F.take k).length = k := by rw [List.length_take]; omega
 rw [List.set_append_right _ _ (by omega), ht, Nat.sub_self, show 6 - k = (6 - (k + 1)) + 1 by omega, List.replicate_succ, List.set_cons_zero, List.append_assoc, List.singleton_append]
theorem rowF_set1 {F : List ByteArray} {k : Nat} (x : ByteArray) (hk : k < 6) (hF : F.length = 6) (h : F[k]? = some x) : (rowF F k).set k x = rowF F (k + 1) := by
 have := rowF_set x x hk hF h;rwa [List.set_set] at this
theorem rowF_len {F : List ByteArray} {k : Nat} (hk : k ≤ 6) (hF : F.length = 6) : (rowF F k).length = 6 := by
 unfold rowF;rw [List.length_append, List.length_take, List.length_replicate];omega
set_option maxRecDepth 100000 in
theorem cnt_all : ∀ o : Fin 512, twoB o.val = true ∨ (cnt (takesL o.val 6) = takenC o.val 6 ∧ (missN o.val ≠ 6 → cnt (takesL o.val (missN o.val)) + 1 = takenC o.val 6)) := by decide +kernel
theorem made6 (F : List ByteArray) : ((rowF F 0).map Value.string).toArray = madeCells #[.string ⟨#[]⟩] 6 := by
 unfold rowF;rw [List.take_zero];kernel_rfl
theorem info_str6 : (Tryz.prog.info? 9).map (fun i => (i.zero, i.size, i.bytes)) = some (some (.string ⟨#[]⟩), 1, 16) := by kernel_rfl
set_option maxRecDepth 100000 in
set_option maxHeartbeats 4000000 in
theorem cronFill_any (o : Nat) (ho : o < 512) (h2 : twoB o = false) (A : Option Addr) (fs : List ByteArray) (c : Nat) (hfl : fs.length ≤ 4294967296) (w : World) (hS : SliceOf w A fs) :
  Calls Tryz.prog 138 #[.slice A fs.length c, .int .i64 o] w (FillAns w (fillS fs o)) := by
 have HT2 := Lib.hid (fun w' => spec_CronTwoOptional.calls o false w' ((two_f ⟨o, ho⟩).trans (by rw [h2])));have HMM := Lib.hid (fun w' => spec_CronMayMiss.calls o (mI (missN o)) w' (miss_f ⟨o, ho⟩));have HTK := Lib.hid (fun k hk w' => takes_any o ho k hk w');have HSL := Lib.hid hS;have hm6 : missN o = 0 ∨ missN o = 5 ∨ missN o = 6 := by unfold missN; (repeat' split) <;> omega
 have hcnt : cnt (takesL o 6) = takenC o 6 ∧ (missN o ≠ 6 → cnt (takesL o (missN o)) + 1 = takenC o 6) := by
  have := cnt_all ⟨o, ho⟩;rcases this with h | h
  ·rw [h2] at h; cases h
  ·exact h
 have HCNT := Lib.hid hcnt;clear hS hcnt;go_enter Tryz.func138, Tryz.ntmps138;go_wp2_with fail
 refine (HT2.out _).mono ?_;rintro e w1 ⟨rfl, hb1⟩;have HB1 := Lib.hid (drawn_below hb1);clear hb1;go_wp2_with fail
 go_loopw [6, 14] (fun v6 v14 wr => ∃ k : Nat, v14 = .int .i64 k ∧ k ≤ 6 ∧ v6 = .int .i64 (takenC o k : Nat) ∧ Below w.heap.size w wr) (fun _ v14 _ => 6 - (intOf v14).toNat)
 case atStart => exact ⟨0, rfl, by omega, rfl, HB1.out⟩
 case round =>
  obtain ⟨k, rfl, hk, rfl, hbr⟩ := hrel;have hle := takenC_le o k;by_cases h6 : k < 6
  ·have HS : Hid (takenC o (k + 1) = takenC o k + (if takeB o k then 1 else 0)) := Lib.hid rfl;have HC := Lib.hid (HTK.out k h6);generalize takenC o k = n at *;generalize takeB o k = b at *;cases b with
   | true =>
    go_wp2_with fail
    refine (HC.out _).mono ?_;rintro e w2 ⟨rfl, hb2⟩;have hB2 := below_of_le hbr hb2;go_wp2_with fail
    go_roundw
    case rel => exact ⟨k + 1, by go_num, by omega, by rw [HS.out]; first | rfl | go_num, hB2⟩
    case measure => simp [intOf]; omega
   | false =>
    go_wp2_with fail
    refine (HC.out _).mono ?_;rintro e w2 ⟨rfl, hb2⟩;have hB2 := below_of_le hbr hb2;go_wp2_with fail
    go_roundw
    case rel => exact ⟨k + 1, by go_num, by omega, by rw [HS.out]; first | rfl | go_num, hB2⟩
    case measure => simp [intOf]; omega
  ·have hk6 : k = 6 := by omega
   subst hk6;clear h6 hk HT2 HB1;have HBR := Lib.hid hbr;clear hbr;go_wp2_with fail
   refine (HMM.out _).mono ?_;rintro e w2 ⟨rfl, hb2⟩;have HB2 := Lib.hid (below_of_le HBR.out (drawn_below hb2));clear hb2 HBR HMM;have hfs : Hid (fillS fs o = if fs.length = takenC o 6 then some (fillB (takesL o 6) defaultsL fs) else if missN o = 6 ∨ fs.length + 1 ≠ takenC o 6 then none else some (fillB (takesL o (missN o)) defaultsL fs)) := Lib.hid rfl;generalize takenC o 6 = T at *;generalize missN o = M at *;by_cases hbad : fs.length ≠ T ∧ (M = 6 ∨ fs.length + 1 ≠ T)
   ·have HX : Hid (fillS fs o = none) := Lib.hid (by rw [hfs.out, if_neg hbad.1, if_pos hbad.2])
    have q1 : ((fs.length : Int) == (T : Int)) = false := by
     rw [beq_eq_false_iff_ne];have := hbad.1;omega
    by_cases hM : M = 6
    ·have q2 : mI M = -1 := by unfold mI; rw [if_pos hM]
     rw [q2];clear hbad q2;go_wp2_with fail
     go_ret2;rw [HX.out];exact ⟨rfl, HB2.out⟩
    ·have q2 : mI M = M := by unfold mI; rw [if_neg hM]
     rw [q2]
     have q3 : ((fs.length : Int) != (T : Int) - 1) = true := by
      rw [bne_iff_ne];have := hbad.2;omega
     clear hbad q2;go_wp2_with fail
     go_ret2;rw [HX.out];exact ⟨rfl, HB2.out⟩
   ·go_upto_if 28 with fail
    go_cut [8] (fun v8 wc => ∃ m : Nat, v8 = .int .i64 (mI m) ∧ Hid (fillS fs o = some (fillB (takesL o m) defaultsL fs)) ∧ m ≤ 6 ∧ cnt (takesL o m) ≤ fs.length ∧ w2 = wc)
    case first =>
     by_cases hA : fs.length = T
     ·have HX : Hid (fillS fs o = some (fillB (takesL o 6) defaultsL fs)) := Lib.hid (by rw [hfs.out, if_pos hA]);have hc6 : cnt (takesL o 6) ≤ fs.length := by have := HCNT.out.1; omega
      have q1 : ((fs.length : Int) == (T : Int)) = true := by
       rw [beq_iff_eq];omega
      clear hA hbad;go_wp2_with fail
      go_meet
      exact ⟨6, rfl, HX, by omega, hc6, rfl⟩
     ·have hM : M ≠ 6 := fun h => hbad ⟨hA, .inl h⟩
      have hlen : fs.length + 1 = T := by
       by_cases h : fs.length + 1 = T
       ·exact h
       ·exact absurd ⟨hA, .inr h⟩ hbad
      have HX : Hid (fillS fs o = some (fillB (takesL o M) defaultsL fs)) := Lib.hid (by rw [hfs.out, if_neg hA, if_neg (fun h => by rcases h with h | h; exact hM h; exact h hlen)]);have hcM : cnt (takesL o M) ≤ fs.length := by have := HCNT.out.2 hM; omega
      have q1 : ((fs.length : Int) == (T : Int)) = false := by
       rw [beq_eq_false_iff_ne];omega
      have q2 : mI M = M := by unfold mI; rw [if_neg hM]
      have q3 : ((fs.length : Int) != (T : Int) - 1) = false := by
       rw [bne_eq_false_iff_eq];omega
      have HM6 : Hid (M ≤ 6) := Lib.hid (by omega);have HQ2 := Lib.hid q2;rw [q2];clear hA hbad hM hlen q2;go_wp2_with fail
      go_meet
      exact ⟨M, by rw [HQ2.out], HX, HM6.out, hcM, rfl⟩
    case rest =>
     obtain ⟨m, rfl, HF, hm, hcm, rfl⟩ := hcut;obtain ⟨wo, rfl⟩ : ∃ wo : World, wo = w2 := ⟨_, rfl⟩
     clear hfs hbad HCNT hm6;obtain ⟨i0, hi0, hz0, hz1, hz2⟩ := info_parts info_str6;have hmk := fun w' : World => run_make w' 33 9 i0 (.string ⟨#[]⟩) Tryz.underlying33 hi0 hz0 .i64 .i64 6 6 (by omega) (by omega) (by rw [hz2]; omega) (by omega)
     rw [hz1] at hmk;have hFl : (fillB (takesL o m) defaultsL fs).length = 6 := fillB_len _ _ _ rfl;have hFa := fun k (h : k < (takesL o m).length) => fillB_at (takesL o m) defaultsL fs k h rfl hcm
     have HFL := Lib.hid hFl;have HFA := Lib.hid hFa;have HSO := Lib.hid (HSL.out.below HB2.out);clear hFl hFa HSL;generalize fillB (takesL o m) defaultsL fs = F at *;go_wp2_with fail
     have hrow0 : Hid ((wo.alloc (.cells (madeCells #[.string ⟨#[]⟩] 6) 9)).heap[wo.heap.size]? = some (.cells ((rowF F 0).map Value.string).toArray 9 (0, 0))) := Lib.hid (by
      have e : ((rowF F 0).map Value.string).toArray = madeCells #[.string ⟨#[]⟩] 6 := made6 F;rw [e];exact heap_alloc_new wo _)
     have hb0 : Below wo.heap.size wo (wo.alloc (.cells (madeCells #[.string ⟨#[]⟩] 6) 9)) := (Below.refl _ _).alloc (Nat.le_refl _) _;go_loopw [10, 41] (fun v10 v41 wr => ∃ k : Nat, v41 = .int .i64 k ∧ k ≤ 6 ∧ v10 = .int .i64 (cnt ((takesL o m).take k) : Nat) ∧ Hid (wr.heap[wo.heap.size]? = some (.cells ((rowF F k).map Value.string).toArray 9 (0, 0))) ∧ Below wo.heap.size wo wr) (fun _ v41 _ => 6 - (intOf v41).toNat)
     case atStart => exact ⟨0, rfl, by omega, rfl, hrow0, hb0⟩
     case round =>
      obtain ⟨k, rfl, hk, rfl, HROW, hbr⟩ := hrel;clear hrow0 hb0;by_cases h6 : k < 6
      ·obtain ⟨hkl, hke⟩ := takesL_at o m k h6;have hct := cnt_take (takesL o m) k hkl;have hcl := cnt_take_le (takesL o m) k;have hcl1 := cnt_take_le (takesL o m) (k + 1);have hFk := HFA.out k hkl;have hlen6 := rowF_len (F := F) hk HFL.out
       have hdk : defaultsL[k]? = some (defaultsL.getD k ⟨#[]⟩) := by
        have : k < defaultsL.length := h6;simp [List.getD, this]
       have HD := Lib.hid (fun w' => spec_CronDefault.calls k (defaultsL.getD k ⟨#[]⟩) w' (default_f ⟨k, h6⟩));have HC := Lib.hid (HTK.out k h6);have HDK := Lib.hid hdk;have hcm2 := hcm;rw [hke] at hct hFk
       have HCT := Lib.hid hct;have HFK := Lib.hid hFk;clear hct hFk hke hdk
       have q1 : ((k : Int) != mI m) = !decide (k = m) := by
        unfold mI;by_cases hm6 : m = 6
        ·rw [if_pos hm6, decide_eq_false (by omega)];simp;try omega
        ·rw [if_neg hm6];by_cases hkm : k = m
         ·rw [decide_eq_true hkm]; simp [hkm]
         ·rw [decide_eq_false hkm];simp;try omega
       generalize defaultsL.getD k ⟨#[]⟩ = d at *;generalize takeB o k = b at *;generalize hnx : cnt ((takesL o m).take k) = nx at *;have HNX := Lib.hid hnx;clear hnx;go_wp2_with fail
       refine (HD.out _).mono ?_;rintro e w3 ⟨rfl, hb3⟩;have hB3 := drawn_below hb3;have hgr : wo.heap.size < wr.heap.size := (Array.getElem?_eq_some_iff.1 HROW.out).1;have hrow3 := (hB3.block _ hgr).trans HROW.out;have hbo3 := below_of_le hbr hB3
       have hcd : ∃ v, w3.cell? ⟨wo.heap.size, k, none⟩ = some v := by
        rw [cell_of_row w3 wo.heap.size k _ _ _ hrow3];exact ⟨_, Array.getElem?_eq_getElem (by simp [hlen6]; omega)⟩
       obtain ⟨v0, hcd⟩ := hcd;have hfd : w3.frozen? ⟨wo.heap.size, k, none⟩ = false := frozen_of_row _ _ _ _ _ hrow3;have HROW4 := Lib.hid (row_put (i := k) d hrow3);have HB4 := Lib.hid (hbo3.setCell (p := ⟨wo.heap.size, k, none⟩) (Nat.le_refl _) (.string d));clear hb3 hB3 hrow3 hbo3 hbr HROW HD;go_wp2_with fail
       refine (HC.out _).mono ?_;rintro e w5 ⟨rfl, hb5⟩;have hg4 := (Array.getElem?_eq_some_iff.1 HROW4.out).1;have HROW5 := Lib.hid ((hb5.block _ hg4).trans HROW4.out);have HB5 := Lib.hid (below_of_le HB4.out hb5);clear hb5 hg4 HROW4 HB4 HC hcd hfd;by_cases hon : (b && !decide (k = m)) = true
       ·have hb : b = true := by
         cases b
         ·simp at hon
         ·rfl
        subst hb;have hkm : decide (k = m) = false := by simpa using hon
        rw [hkm] at q1;have hq2 : ((k : Int) != mI m) = true := q1
        have hx : ∃ y, fs[nx]? = some y := by
         have h1 := HCT.out;rw [if_pos hon] at h1;exact ⟨_, List.getElem?_eq_getElem (by omega)⟩
        obtain ⟨y, hy⟩ := hx
        have hFy : F[k]? = some y := by
         have := HFK.out;rw [if_pos hon] at this;rw [this];exact hy
        obtain ⟨ga, rfl, hga, hca⟩ := HSO.out nx y hy;have hnl : nx < fs.length := (List.getElem?_eq_some_iff.1 hy).1;have hca5 : w5.cell? ⟨ga, nx, none⟩ = some (.string y) := (HB5.out.cell (p := ⟨ga, nx, none⟩) hga).trans hca
        have hcd5 : w5.cell? ⟨wo.heap.size, k, none⟩ = some (.string d) := by
         rw [cell_of_row w5 wo.heap.size k _ _ _ HROW5.out];simp [hlen6, h6]
        have hfd5 : w5.frozen? ⟨wo.heap.size, k, none⟩ = false := frozen_of_row _ _ _ _ _ HROW5.out;have HN : Hid (cnt ((takesL o m).take (k + 1)) = nx + 1) := Lib.hid (by rw [HCT.out, if_pos hon]);have HR := Lib.hid (row_put (i := k) y HROW5.out);have HRS := Lib.hid (rowF_set y d h6 HFL.out hFy);clear hkm hon q1 hy hFy hca hcl hcl1;go_wp2_with fail
        go_roundw
        case rel => exact ⟨k + 1, by go_num, by omega, by rw [HN.out]; go_num, Lib.hid (by rw [← HRS.out]; exact HR.out), HB5.out.setCell (p := ⟨wo.heap.size, k, none⟩) (Nat.le_refl _) _⟩
        case measure => simp [intOf]; omega
       ·have hFd : F[k]? = some d := by
         have := HFK.out;rw [if_neg hon] at this;rw [this];exact HDK.out
        have HN : Hid (cnt ((takesL o m).take (k + 1)) = nx) := Lib.hid (by rw [HCT.out, if_neg hon]; rfl);have HRS := Lib.hid (rowF_set1 d h6 HFL.out hFd);cases b with
        | false =>
         clear hon hFd q1 hcl hcl1;go_wp2_with fail
         go_roundw
         case rel => exact ⟨k + 1, by go_num, by omega, by rw [HN.out], Lib.hid (by rw [← HRS.out]; exact HROW5.out), HB5.out⟩
         case measure => simp [intOf]; omega
        | true =>
         have hkm : decide (k = m) = true := by
          cases h : decide (k = m)
          ·rw [h] at hon; exact absurd rfl hon
          ·rfl
         rw [hkm] at q1;have hq2 : ((k : Int) != mI m) = false := q1;clear hon hFd q1 hkm hcl hcl1;go_wp2_with fail
         go_roundw
         case rel => exact ⟨k + 1, by go_num, by omega, by rw [HN.out], Lib.hid (by rw [← HRS.out]; exact HROW5.out), HB5.out⟩
         case measure => simp [intOf]; omega
      ·have hk6 : k = 6 := by omega
       subst hk6
       have hend : rowF F 6 = F := by
        unfold rowF;rw [List.take_of_length_le (by rw [HFL.out]; exact Nat.le_refl _)];simp
       have hrowF := HROW.out;rw [hend] at hrowF
       have HT : Hid (Texts wr wo.heap.size 6 6 F) := Lib.hid ⟨HFL.out.symm, Nat.le_refl _, (Array.getElem?_eq_some_iff.1 hrowF).1, fun j x hx => by
        rw [cell_of_row wr wo.heap.size j _ _ _ hrowF];simp [hx]⟩
       clear hend hrowF h6 hk;go_wp2_with fail
       go_ret2;rw [HF.out];exact ⟨⟨wo.heap.size, rfl, HB2.out.size, HT.out⟩, below_of_le HB2.out hbr⟩
end Go.Proofs.YtmecbmgfacpecaaGreatDoor.Cron
namespace Go.Proofs.YtmecbmgfacpecaaGreatDoor.Cron
open Go Go.RowKit Go.Proofs.YtmecbmgfacpecaaGreatDoor.Text Go.Proofs.YtmecbmgfacpecaaGreatDoor.Bits
theorem union_start (pa pb : Nat → Bool) : (fun j => if j < 0 then pa j || pb j else pa j) = pa := by
 funext j
 simp
theorem union_next (pa pb : Nat → Bool) (n : Nat) : (fun i => if i = n then (pa n || pb n) else (if i < n then pa i || pb i else pa i)) = (fun i => if i < n + 1 then pa i || pb i else pa i) := by
 funext i
 by_cases h : i = n
 ·subst h;rw [if_pos rfl, if_pos (by omega)]
 ·rw [if_neg h];by_cases h2 : i < n
  ·rw [if_pos h2, if_pos (by omega)]
  ·rw [if_neg h2, if_neg (by omega)]
theorem union_end (sa : Bool) (pa pb : Nat → Bool) (n : Nat) (h : 63 ≤ n) : setCells sa (fun j => if j < n then pa j || pb j else pa j) = setCells sa (fun j => pa j || pb j) :=
 setCells_ext fun j hj => by rw [if_pos (by omega)]
theorem results_one {fn : Func} {p : Tmp} (h : fn.results = #[.cell p 56]) (tmps : Array Value) (w : World) (g : Nat) (st : Bool) (q : Nat → Bool)
  (hp : tmps.getD p undef = .pointer (some ⟨g, 0, none⟩)) (hs : IsSet w g st q) :
  (results fn tmps).run Tryz.prog w = .ok (.agg (setCells st q)) w := by
 have hp' : tmps[p]?.getD undef = .pointer (some ⟨g, 0, none⟩) := by simpa using hp
 simp only [results, h];simp [asAddr, hp', run_load_set w g st q hs]
set_option maxRecDepth 100000 in
set_option maxHeartbeats 1000000 in
theorem cronUnion_any (sa sb : Bool) (pa pb : Nat → Bool) (w : World) :
  Calls Tryz.prog 59 #[.agg (setCells sa pa), .agg (setCells sb pb)] w fun e w' => e = .returned (.agg (setCells (sa || sb) (fun j => pa j || pb j))) ∧ Below w.heap.size w w' := by
 have hidx := run_index_in pb;have hboxa := run_box_set sa pa;have hboxb := run_box_set sb pb;have hal := run_alloc_set;go_enter Tryz.func59, Tryz.ntmps59;go_upto_region 1 with fail
 generalize hW : World.alloc (World.alloc (World.alloc w _) _) _ = wL
 have HA : Hid (IsSet wL w.heap.size sa pa) := Lib.hid (by
  rw [← hW];exact (isSet_new w sa pa).below (((Below.refl _ _).alloc (Nat.le_refl _) _).alloc (by simp) _))
 have HB : Hid (IsSet wL (w.heap.size + 1) sb pb) := Lib.hid (by
  rw [← hW];have := isSet_new (w.alloc (.cells (setCells sa pa) 56)) sb pb;rw [show (w.alloc (.cells (setCells sa pa) 56)).heap.size = w.heap.size + 1 by simp] at this;exact this.below ((Below.refl _ _).alloc (by simp) _))
 have HR : Hid (IsSet wL (w.heap.size + 2) false noSet) := Lib.hid (by
  rw [← hW];have := isSet_lit ((w.alloc (.cells (setCells sa pa) 56)).alloc (.cells (setCells sb pb) 56));rw [show ((w.alloc (.cells (setCells sa pa) 56)).alloc (.cells (setCells sb pb) 56)).heap.size = w.heap.size + 2 by simp] at this;exact this)
 have HW : Hid (Below w.heap.size w wL) := Lib.hid (by
  rw [← hW];exact (((Below.refl _ _).alloc (Nat.le_refl _) _).alloc (by simp) _).alloc (by simp; omega) _)
 clear hW;go_wp2_with (refine wpList_load_in rfl _ rfl (w.heap.size + 1) sb pb rfl HB.out ?_)
 go_loopw [9] (fun v9 wr => ∃ n : Nat, v9 = .int .i64 n ∧ n ≤ 63 ∧ Hid (IsSet wr w.heap.size sa (fun j => if j < n then pa j || pb j else pa j)) ∧ Hid (IsSet wr (w.heap.size + 1) sb pb) ∧ Hid (IsSet wr (w.heap.size + 2) false noSet) ∧ Below w.heap.size w wr) (fun v9 _ => 63 - (intOf v9).toNat)
 case atStart => exact ⟨0, rfl, by omega, Lib.hid (by rw [union_start]; exact HA.out), HB, HR, HW.out⟩
 case round =>
  obtain ⟨n, rfl, hn, HA', HB', HR', hbr⟩ := hrel;clear HA HB HR HW hboxa hboxb hal;by_cases h : n < 63
  ·have hi := hidx n h
   have hc : wr.cell? ⟨w.heap.size, 1 + n, none⟩ = some (.bool (pa n)) := by
    have := HA'.out.cellAt n h;rw [if_neg (by omega)] at this;rw [Nat.add_comm]; exact this
   have hf : wr.frozen? ⟨w.heap.size, 1 + n, none⟩ = false := by rw [Nat.add_comm]; exact HA'.out.free (n + 1)
   have HN := Lib.hid (HA'.out.put n h (pa n || pb n));have hunion := union_next pa pb n;have hne1 : w.heap.size + 1 ≠ w.heap.size := by omega
   have hne2 : w.heap.size + 2 ≠ w.heap.size := by omega
   cases hp : pa n
   all_goals
    rw [hp] at hc;go_wp2_with fail
    go_roundw
    case rel =>
     refine ⟨n + 1, by go_num, by omega, Lib.hid ?_, Lib.hid (HB'.out.other hne1 _), Lib.hid (HR'.out.other hne2 _), hbr.setCell (Nat.le_refl _) _⟩;have h1 := HN.out;rw [hunion, Nat.add_comm n 1, hp] at h1;rw [Nat.add_comm n 1];first | exact h1 | (rw [Nat.add_comm 1 n] at *; simpa using h1)
    case measure => simp [intOf]; omega
  ·have he : IsSet wr w.heap.size sa (fun j => pa j || pb j) := by
    have := HA'.out;unfold IsSet at this ⊢
    rw [union_end sa pa pb n (by omega)] at this;exact this
   have hca := he.cell0;have hfa := he.free 0;have hcb := HB'.out.cell0;have hne2 : w.heap.size + 2 ≠ w.heap.size := by omega
   cases sa
   ·have HL := Lib.hid (he.putStar (false || sb));have HR2 := Lib.hid (HR'.out.other (a := ⟨w.heap.size, 0, none⟩) hne2 (.bool (false || sb)));have HS2 := Lib.hid (HR2.out.store (false || sb) (fun j => pa j || pb j));have hb2 : Below w.heap.size w ((wr.setCell ⟨w.heap.size, 0, none⟩ (.bool (false || sb))).setRow (w.heap.size + 2) (setCells (false || sb) (fun j => pa j || pb j))) := below_setRow (hbr.setCell (Nat.le_refl _) _) (by omega) _;clear he hbr HA' HB';go_wp2_with (first | (refine wpList_load_set rfl _ rfl w.heap.size _ (fun j => pa j || pb j) rfl HL.out ?_) | (refine wpList_store_set rfl _ _ rfl (w.heap.size + 2) _ (fun j => pa j || pb j) rfl rfl _ _ HR2.out ?_))
    refine bodyPost_ret (v := .agg (setCells (false || sb) (fun j => pa j || pb j))) ?_ rfl ?_
    ·exact results_one (fn := Tryz.f59) (p := 4) rfl _ _ (w.heap.size + 2) _ _ rfl HS2.out
    exact ⟨rfl, hb2⟩
   ·have HL := Lib.hid (he.putStar (true || sb));have HR2 := Lib.hid (HR'.out.other (a := ⟨w.heap.size, 0, none⟩) hne2 (.bool (true || sb)));have HS2 := Lib.hid (HR2.out.store (true || sb) (fun j => pa j || pb j));have hb2 : Below w.heap.size w ((wr.setCell ⟨w.heap.size, 0, none⟩ (.bool (true || sb))).setRow (w.heap.size + 2) (setCells (true || sb) (fun j => pa j || pb j))) := below_setRow (hbr.setCell (Nat.le_refl _) _) (by omega) _;clear he hbr HA' HB';go_wp2_with (first | (refine wpList_load_set rfl _ rfl w.heap.size _ (fun j => pa j || pb j) rfl HL.out ?_) | (refine wpList_store_set rfl _ _ rfl (w.heap.size + 2) _ (fun j => pa j || pb j) rfl rfl _ _ HR2.out ?_))
    refine bodyPost_ret (v := .agg (setCells (true || sb) (fun j => pa j || pb j))) ?_ rfl ?_
    ·exact results_one (fn := Tryz.f59) (p := 4) rfl _ _ (w.heap.size + 2) _ _ rfl HS2.out
    exact ⟨rfl, hb2⟩
def upTo (R : List UInt8 → Option Nat) (ps : List (List UInt8)) (i : Nat) : Option Nat := fieldGo R ((ps.take i).filter (· ≠ [])) 0
theorem fieldGo_append (R : List UInt8 → Option Nat) : ∀ (xs ys : List (List UInt8)) (b : Nat), fieldGo R (xs ++ ys) b = (fieldGo R xs b).bind (fieldGo R ys)
 | [], ys, b => rfl
 | x :: xs, ys, b => by
  simp only [List.cons_append, fieldGo];cases R x with
  | none => rfl
  | some c => exact fieldGo_append R xs ys _
theorem upTo_empty {R : List UInt8 → Option Nat} {ps : List (List UInt8)} {i : Nat} (h : ps[i]? = some []) : upTo R ps (i + 1) = upTo R ps i := by
 unfold upTo;rw [List.take_add_one, h];simp
theorem upTo_item {R : List UInt8 → Option Nat} {ps : List (List UInt8)} {i : Nat} {x : List UInt8} (h : ps[i]? = some x) (hx : x ≠ []) :
  upTo R ps (i + 1) = (upTo R ps i).bind fun b => (R x).map fun c => b ||| c := by
 unfold upTo;rw [List.take_add_one, h];simp only [Option.toList_some, List.filter_append];rw [List.filter_cons_of_pos (by simpa using hx), List.filter_nil, fieldGo_append];congr 1
 funext b
 simp only [fieldGo];cases R x <;> rfl
theorem upTo_all {val : List UInt8 → Option Nat} {lo hi : Nat} {l : List UInt8} {i : Nat} (h : (splitL 44 l).length ≤ i) : upTo (rangeS val lo hi) (splitL 44 l) i = fieldS val lo hi l := by
 unfold upTo fieldS partsL;rw [List.take_of_length_le h]
theorem setBits_or (sa sb : Bool) (pa pb : Nat → Bool) : setBits (sa || sb) (fun j => pa j || pb j) = setBits sa pa ||| setBits sb pb := by
 unfold setBits;rw [← mkBits_or];apply Nat.eq_of_testBit_eq
 intro j;cases sa <;> cases sb <;> simp [Nat.testBit_or, Bool.or_assoc, Bool.or_comm, Bool.or_left_comm]
structure FieldMid (r : Option Nat) (star : Bool) (p : Nat → Bool) (v : Int) : Prop where
 vs : v = 0 ∨ v = 1 ∨ v = 2
 bad : v = 0 → r = none
 fine : v = 1 → r = some (setBits star p)
theorem mid_start (R : List UInt8 → Option Nat) (ps : List (List UInt8)) : FieldMid (upTo R ps 0) false noSet 1 := by
 refine ⟨by omega, fun h => by omega, fun _ => ?_⟩;unfold upTo;simp only [List.take_zero, List.filter_nil, fieldGo];congr 1
theorem mid_empty {R : List UInt8 → Option Nat} {ps : List (List UInt8)} {i : Nat} {star : Bool} {p : Nat → Bool} {v v' : Int} (h : FieldMid (upTo R ps i) star p v) (hx : ps[i]? = some [])
  (hv : v' = 0 ∨ v' = 1 ∨ v' = 2) (h0 : v' = 0 → v = 0 ∨ (2 : Int) = 0) (h1 : v' = 1 → v = 1 ∧ (2 : Int) = 1) : FieldMid (upTo R ps (i + 1)) star p v' := by
 rw [upTo_empty hx];exact ⟨hv, fun e => by rcases h0 e with e | e; exact h.bad e; omega, fun e => by have := (h1 e).2; omega⟩
theorem mid_item {R : List UInt8 → Option Nat} {ps : List (List UInt8)} {i : Nat} {star sx : Bool} {p px : Nat → Bool} {v vx v' : Int} {x : List UInt8} (h : FieldMid (upTo R ps i) star p v) (hx : ps[i]? = some x) (hne : x ≠ [])
  (hi : ItemIs (R x) sx px vx) (hv : v' = 0 ∨ v' = 1 ∨ v' = 2) (h0 : v' = 0 → v = 0 ∨ vx = 0) (h1 : v' = 1 → v = 1 ∧ vx = 1) : FieldMid (upTo R ps (i + 1)) (star || sx) (fun j => p j || px j) v' := by
 rw [upTo_item hx hne];refine ⟨hv, fun e => ?_, fun e => ?_⟩
 ·rcases h0 e with e | e
  ·rw [h.bad e]; rfl
  ·rw [hi.bad e];cases upTo R ps i <;> rfl
 ·obtain ⟨e1, e2⟩ := h1 e;rw [h.fine e1, hi.fine e2, setBits_or];rfl
end Go.Proofs.YtmecbmgfacpecaaGreatDoor.Cron
namespace Go.Proofs.YtmecbmgfacpecaaGreatDoor.Cron
open Go Go.RowKit Go.Proofs.YtmecbmgfacpecaaGreatDoor.Text Go.Proofs.YtmecbmgfacpecaaGreatDoor.Bits Go.Proofs.YtmecbmgfacpecaaGreatDoorW.PrintWords Go.Proofs.YtmecbmgfacpecaaGreatDoorW.PrintLast Go.Proofs.YtmecbmgfacpecaaGreatDoorW.PrintMore Go.Proofs.YtmecbmgfacpecaaGreatDoor.Pr
theorem eqEmpty {q : List UInt8} : ((ba q).toList == []) = decide (q = []) := by rw [toList_data, ba_list]; exact Bool.eq_iff_iff.2 ⟨fun h => decide_eq_true (eq_of_beq h), fun h => beq_iff_eq.2 (of_decide_eq_true h)⟩
theorem texts_row {w : World} {g n c : Nat} {l : List ByteArray} (h : Texts w g n c l) {k : Nat} (hk : g ≠ k) (cs : Array Value) : Texts (w.setRow k cs) g n c l :=
 ⟨h.len, h.le, by simpa [World.setRow] using h.lt, fun i x hx => by
  have := h.at_ i x hx;unfold World.cell? at this ⊢
  rw [setRow_other w k g cs hk];exact this⟩
theorem isSet_third (w : World) (o1 o2 o3 : Obj) (h : ∀ w' : World, IsSet (w'.alloc o3) w'.heap.size false noSet) : IsSet (((w.alloc o1).alloc o2).alloc o3) (w.heap.size + 2) false noSet := by
 have := h ((w.alloc o1).alloc o2);rw [show ((w.alloc o1).alloc o2).heap.size = w.heap.size + 2 by simp] at this;exact this
set_option maxRecDepth 100000 in
set_option maxHeartbeats 1600000 in
theorem cronField_any (val : List UInt8 → Option Nat) (kind : Int) (HV : ReadsLike val kind) (lo hi : Nat) (s : ByteArray) (hs : s.size ≤ 4294967296) (h1 : lo ≤ hi) (h2 : hi ≤ 62) (w : World) :
  Calls Tryz.prog 21 #[.agg #[.int .i64 lo, .int .i64 hi, .int .i64 kind], .string s] w (ItemPost w (fieldS val lo hi s.data.toList)) := by
 have hal := run_alloc_set
 have hsz : ∀ x ∈ splitL 44 s.data.toList, (ba x).size ≤ 4294967296 := by
  intro x hx;have := splitL_size 44 _ x hx;rw [← size_list] at this;rw [ba_size];omega
 have hlen : (splitL 44 s.data.toList).length ≤ 4294967297 := by
  have h2 := splitL_len 44 s.data.toList;rw [← size_list] at h2;omega
 have HP := Lib.hid (fun w' => pieces_any 44 s (by omega) w');have HALL := Lib.hid (fun i h => upTo_all (val := val) (lo := lo) (hi := hi) (l := s.data.toList) (i := i) h);have HSPL : Hid (splitB 44 s = (splitL 44 s.data.toList).map ba) := Lib.hid rfl;have HSZ := Lib.hid hsz;clear hsz;generalize hF : fieldS val lo hi s.data.toList = F at *;generalize splitL 44 s.data.toList = ps at *;clear hF;go_enter Tryz.func21, Tryz.ntmps21;go_upto_region 3 with fail
 generalize hW : World.alloc (World.alloc (World.alloc w _) _) _ = wL
 have hbx : wL.heap[w.heap.size]? = some (.cells #[.int .i64 lo, .int .i64 hi, .int .i64 kind] 60 (0, 0)) := by
  rw [← hW];exact box_row w _ _ _ ((Below.refl _ _).alloc (Nat.le_refl _) _)
 have hR1 : IsSet wL (w.heap.size + 1) false noSet := by
  rw [← hW];have := isSet_lit (w.alloc (.cells #[.int .i64 lo, .int .i64 hi, .int .i64 kind] 60));rw [show (w.alloc (.cells #[.int .i64 lo, .int .i64 hi, .int .i64 kind] 60)).heap.size = w.heap.size + 1 by simp] at this;exact this.below ((Below.refl _ _).alloc (by simp) _)
 have hR2 : IsSet wL (w.heap.size + 2) false noSet := by
  rw [← hW];exact isSet_third w _ _ _ isSet_lit
 have hBL : Below w.heap.size w wL := by
  rw [← hW];exact (((Below.refl _ _).alloc (Nat.le_refl _) _).alloc (by simp) _).alloc (by simp; omega) _
 clear hW;go_wp2_with (go_at_call 56; go_must (refine (HP.out _).mono ?_); rintro e w1 ⟨g, n, c, rfl, hg, ht, hb1⟩)
 have hz1 : w.heap.size + 2 < w1.heap.size := Nat.lt_of_lt_of_le hR2.lt hb1.size;have hB1 := below_of_le hBL hb1;have HBX := Lib.hid ((hb1.block w.heap.size (by have := hR2.lt; omega)).trans hbx);have HR1 := Lib.hid (hR1.below hb1);have HR2 := Lib.hid (hR2.below hb1);rw [HSPL.out] at ht;have hn : n = ps.length := by rw [ht.len, List.length_map]
 subst hn;have HT := Lib.hid ht;have HB1 := Lib.hid hB1;have hg2 : w.heap.size + 2 < g := Nat.lt_of_lt_of_le hR2.lt hg;clear hbx hR1 hR2 hBL hb1 ht hB1 hg HP HSPL;go_loopw [7, 15] (fun v7 v15 wr => ∃ (i : Nat) (v : Int) (star : Bool) (p : Nat → Bool), v15 = .int .i64 i ∧ v7 = .int .i64 v ∧ i ≤ ps.length ∧ Hid (FieldMid (upTo (rangeS val lo hi) ps i) star p v) ∧ Hid (IsSet wr (w.heap.size + 2) star p) ∧ Hid (IsSet wr (w.heap.size + 1) false noSet) ∧ Hid (wr.heap[w.heap.size]? = some (.cells #[.int .i64 lo, .int .i64 hi, .int .i64 kind] 60 (0, 0))) ∧ Hid (Texts wr g ps.length c (ps.map ba)) ∧ Below w.heap.size w wr) (fun _ v15 _ => ps.length - (intOf v15).toNat)
 case atStart => exact ⟨0, 1, false, noSet, rfl, rfl, by omega, Lib.hid (mid_start _ _), HR2, HR1, HBX, HT, HB1.out⟩
 case round =>
  obtain ⟨i, v, star, p, rfl, rfl, hil, HM, HS, HS1, HBX', HT', hbr⟩ := hrel;clear HR1 HR2 HBX HT HB1;by_cases hlt : i < ps.length
  ·have hxi : ps[i]? = some ps[i] := List.getElem?_eq_getElem hlt;have hmem := List.getElem_mem hlt;generalize ps[i] = x at hxi hmem
   have hc : wr.cell? ⟨g, i, none⟩ = some (.string (ba x)) := HT'.out.at_ i _ (by rw [List.getElem?_map, hxi]; rfl);by_cases hx : x = []
   ·subst hx;have he : ((ba []).toList == []) = true := by rw [eqEmpty]; rfl
    obtain ⟨v3, hw3, hvs3, hw0, hw1, _, _⟩ := worse_f v 2 HM.out.vs (by omega);have HM2 := Lib.hid (mid_empty HM.out hxi hvs3 hw0 hw1);have HC := Lib.hid (fun w' => spec_worse.calls v 2 v3 w' hw3);clear hw3 hw0 hw1 hmem;go_wp2_with (go_at_call 57; go_must (refine (HC.out _).mono ?_); rintro e w5 ⟨rfl, hb5⟩)
    go_roundw
    case rel => exact ⟨i + 1, v3, star, p, by go_num, rfl, by omega, HM2, Lib.hid (HS.out.below hb5), Lib.hid (HS1.out.below hb5), Lib.hid ((hb5.block w.heap.size (by have := HS.out.lt; omega)).trans HBX'.out), Lib.hid (HT'.out.below hb5), below_of_le hbr hb5⟩
    case measure => simp [intOf]; omega
   ·have he : ((ba x).toList == []) = false := by rw [eqEmpty]; exact decide_eq_false hx
    have hd0 : wr.cell? ⟨w.heap.size, 0, none⟩ = some (.int .i64 lo) := cell_of_row _ _ _ _ _ _ HBX'.out;have hd1 : wr.cell? ⟨w.heap.size, 1, none⟩ = some (.int .i64 hi) := cell_of_row _ _ _ _ _ _ HBX'.out;have hd2 : wr.cell? ⟨w.heap.size, 2, none⟩ = some (.int .i64 kind) := cell_of_row _ _ _ _ _ _ HBX'.out;have HCI := Lib.hid (fun w' => cronItem_any val kind HV lo hi (ba x) (HSZ.out x hmem) h1 h2 w');go_wp2_with fail
    refine (HCI.out _).mono ?_;rintro e w2 ⟨sx, px, vx, rfl, hi2, hb2⟩;obtain ⟨v3, hw3, hvs3, hw0, hw1, _, _⟩ := worse_f v vx HM.out.vs hi2.vs;have HM2 := Lib.hid (mid_item HM.out hxi hx hi2 hvs3 hw0 hw1);have HC := Lib.hid (fun w' => spec_worse.calls v vx v3 w' hw3);have HU := Lib.hid (fun w' => cronUnion_any star sx p px w');have HN := Lib.hid (isSet_lit w2);have HW := Lib.hid (HN.out.store sx px);have hsz2 : w.heap.size + 2 < w2.heap.size := Nat.lt_of_lt_of_le HS.out.lt hb2.size;have hbig : ∀ o, Below w2.heap.size w2 ((w2.alloc o).setRow w2.heap.size (setCells sx px)) := fun o => below_setRow ((Below.refl _ _).alloc (Nat.le_refl _) _) (Nat.le_refl _) _
    have HBIG := Lib.hid hbig;have HS2 := Lib.hid (fun o => (HS.out.below hb2).below (HBIG.out o));have hB2 := below_of_le hbr hb2;have HSA := Lib.hid (HS1.out.below hb2);have HBXA := Lib.hid ((hb2.block w.heap.size (by have := HS.out.lt; omega)).trans HBX'.out);have HTA := Lib.hid (HT'.out.below hb2);clear hd0 hd1 hd2 hc hbr hbig HS HS1 HBX' HT' hw3 hw0 hw1 hi2 hb2 hmem HCI;go_wp2_with (first | (refine wpList_store_set rfl _ _ rfl w2.heap.size sx px rfl rfl false noSet HN.out ?_) | (refine wpList_load_set rfl _ rfl (w.heap.size + 2) star p rfl (HS2.out _) ?_) | (refine wpList_load_set rfl _ rfl w2.heap.size sx px rfl HW.out ?_))
    refine (HU.out _).mono ?_;rintro e w3 ⟨rfl, hb3⟩;have hw2s : w2.heap.size + 1 ≤ w3.heap.size := by have := hb3.size; simp [World.setRow] at this; omega
    have hbA := HBIG.out (.cells #[.bool false, .bool false, .bool false, .bool false, .bool false, .bool false, .bool false, .bool false, .bool false, .bool false, .bool false, .bool false, .bool false, .bool false, .bool false, .bool false, .bool false, .bool false, .bool false, .bool false, .bool false, .bool false, .bool false, .bool false, .bool false, .bool false, .bool false, .bool false, .bool false, .bool false, .bool false, .bool false, .bool false, .bool false, .bool false, .bool false, .bool false, .bool false, .bool false, .bool false, .bool false, .bool false, .bool false, .bool false, .bool false, .bool false, .bool false, .bool false, .bool false, .bool false, .bool false, .bool false, .bool false, .bool false, .bool false, .bool false, .bool false, .bool false, .bool false, .bool false, .bool false, .bool false, .bool false, .bool false] 56);have hb23 : Below w2.heap.size w2 w3 := below_of_le hbA hb3;have HS3 := Lib.hid ((HS2.out _).below hb3);have HB23 := Lib.hid hb23;clear hb3 hb23 hbA HN HW HS2 HBIG HU;go_wp2_with fail
    refine (HC.out _).mono ?_;rintro e w4 ⟨rfl, hb4⟩;have HS4 := Lib.hid (HS3.out.below hb4);have hb24 := below_of_le HB23.out hb4;have HB24 := Lib.hid hb24;have HSA4 := Lib.hid (HSA.out.below hb24);have HBX4 := Lib.hid ((hb24.block w.heap.size (by omega)).trans HBXA.out);have HT4 := Lib.hid (HTA.out.below hb24);have hB4 := below_of_le hB2 hb24;clear HS3 HB23 HSA HBXA HTA hb4 hb24 HC hB2;go_wp2_with (refine wpList_store_set rfl _ _ rfl (w.heap.size + 2) (star || sx) (fun j => p j || px j) rfl rfl star p HS4.out ?_)
    go_roundw
    case rel =>
     exact ⟨i + 1, v3, star || sx, _, by go_num, rfl, by omega, HM2, Lib.hid (HS4.out.store _ _), Lib.hid (HSA4.out.row_other (by omega) _), Lib.hid ((setRow_other w4 (w.heap.size + 2) w.heap.size _ (by omega)).trans HBX4.out), Lib.hid (texts_row HT4.out (by omega) _), below_setRow hB4 (by omega) _⟩
    case measure => simp [intOf]; omega
  ·have hie : ps.length ≤ i := by omega
   have HF : Hid (FieldMid F star p v) := Lib.hid (by rw [← HALL.out i hie]; exact HM.out);clear HM HBX' HT';by_cases hv : v = 1
   ·subst hv;have HR2 := Lib.hid (HS1.out.store star p);go_wp2_with (first | (refine wpList_load_set rfl _ rfl (w.heap.size + 2) star p rfl HS.out ?_) | (refine wpList_store_set rfl _ _ rfl (w.heap.size + 1) star p rfl rfl _ _ HS1.out ?_))
    refine bodyPost_ret (v := .tuple #[.agg (setCells star p), .int .i64 1]) ?_ rfl ?_
    ·exact results_set (fn := Tryz.f21) (p := 4) (u := 5) rfl _ _ (w.heap.size + 1) _ _ rfl HR2.out
    exact ⟨star, p, 1, rfl, ⟨HF.out.vs, HF.out.bad, HF.out.fine, fun h => absurd rfl h⟩, below_setRow hbr (by omega) _⟩
   ·have hne : (v != 1) = true := by simpa using hv
    have HR2 := Lib.hid (HS1.out.store false noSet);have hv0 : v = 0 ∨ v = 2 := by rcases HF.out.vs with h | h | h <;> omega
    have HV0 := Lib.hid hv0;clear hv hv0;go_wp2_with (first | (refine wpList_build_set rfl rfl ?_) | (refine wpList_store_set rfl _ _ rfl (w.heap.size + 1) false noSet rfl rfl _ _ HS1.out ?_))
    refine bodyPost_ret (v := .tuple #[.agg (setCells false noSet), .int .i64 v]) ?_ rfl ?_
    ·exact results_set (fn := Tryz.f21) (p := 4) (u := 5) rfl _ _ (w.heap.size + 1) _ _ rfl HR2.out
    exact ⟨false, noSet, v, rfl, item_zero HV0.out HF.out.bad, below_setRow hbr (by omega) _⟩
end Go.Proofs.YtmecbmgfacpecaaGreatDoor.Cron
