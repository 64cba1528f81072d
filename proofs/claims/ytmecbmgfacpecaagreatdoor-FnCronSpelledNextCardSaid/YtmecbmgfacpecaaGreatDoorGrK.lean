/- Lemmas and walks on the way to the law, merged by wip/tools/pack.py: SpellW, StyleT, Closure, Options, Fill, ZZFields. Conditions: none. -/
import Derived.Test.YtmecbmgfacpecaaGreatDoorGrJ
import Derived.Deep.AppendLies
import Derived.Laws.OwnMore
import Derived.Test.YtmecbmgfacpecaaGreatDoorGrI
import Derived.Test.YtmecbmgfacpecaaGreatDoorGrG
import Derived.Test.YtmecbmgfacpecaaGreatDoorGrF
import Derived.Test.YtmecbmgfacpecaaGreatDoorPrA
import Derived.Lib.FieldsP
namespace Go.Proofs.YtmecbmgfacpecaaGreatDoor.Cron
open Go Go.RowKit Go.Proofs.YtmecbmgfacpecaaGreatDoor.Text Go.Proofs.YtmecbmgfacpecaaGreatDoor.Bits
set_option linter.unusedVariables false
set_option linter.unusedSimpArgs false
theorem hiK_59 (k : Nat) : hiK k ≤ 59 := by unfold hiK; (repeat' split) <;> omega
theorem loK_1 (k : Nat) : loK k ≤ 1 := by unfold loK; (repeat' split) <;> omega
structure GoodSet (k : Nat) (st : Bool) (p : Nat → Bool) : Prop where
 inn : ∀ j, p j = true → loK k ≤ j ∧ j ≤ hiK k
 ex : ∃ j, p j = true
 star : st = true → ∀ j, loK k ≤ j → j ≤ hiK k → p j = true
structure Spelt (k : Nat) (st : Bool) (p q : Nat → Bool) (v U : Nat) (L : List (List UInt8)) : Prop where
 items : ItemsT k (loK k) (hiK k) U L
 sub : ∀ j, U.testBit j = true → (j < 63 ∧ p j = true) ∨ (j = 63 ∧ st = true)
 rest : ∀ j, q j = true → p j = true
 gone : ∀ j, p j = true → q j = true ∨ U.testBit j = true
 below : st = false → ∀ j, j < v → p j = true → U.testBit j = true
 star : st = true → U.testBit 63 = true ∧ ∀ j, p j = true → U.testBit j = true
 short : ∀ x ∈ L, x.length ≤ 40
theorem spelt_start {k : Nat} {p : Nat → Bool} (h : GoodSet k false p) : Spelt k false p p (loK k) 0 [] := by
 refine ⟨.nil, ?_, fun _ h => h, fun _ h => .inl h, ?_, ?_, ?_⟩
 ·intro j hj
  simp at hj
 ·intro _ j hj hp
  have := (h.inn j hp).1
  omega
 ·intro h; cases h
 ·intro x hx; cases hx
theorem bit63 (j : Nat) : (9223372036854775808 : Nat).testBit j = decide (63 = j) := by
 rw [show (9223372036854775808 : Nat) = 2 ^ 63 from rfl, Nat.testBit_two_pow]
theorem spelt_star {k : Nat} {p : Nat → Bool} {l : List UInt8} (h : GoodSet k true p) (hl : ItemT k (loK k) (hiK k) (steps (loK k) (hiK k) 1 ||| 9223372036854775808) l) (hs : l.length ≤ 40) : Spelt k true p p (loK k) ((steps (loK k) (hiK k) 1 ||| 9223372036854775808) ||| 0) [l] := by
 have hh := hiK_59 k
 have hb : ∀ j, ((steps (loK k) (hiK k) 1 ||| 9223372036854775808) ||| 0).testBit j = true ↔ (loK k ≤ j ∧ j ≤ hiK k) ∨ j = 63 := by
  intro j
  rw [Nat.or_zero, Nat.testBit_or, steps_bit, bit63]
  simp [Nat.mod_one]
  omega
 refine ⟨.cons hl .nil, ?_, fun _ h => h, fun _ h => .inl h, ?_, ?_, ?_⟩
 ·intro j hj
  rcases (hb j).1 hj with h1 | h1
  ·exact .inl ⟨by omega, h.star rfl j h1.1 h1.2⟩
  ·exact .inr ⟨h1, rfl⟩
 ·intro h; cases h
 ·intro _
  exact ⟨(hb 63).2 (.inr rfl), fun j hj => (hb j).2 (.inl (h.inn j hj))⟩
 ·intro x hx
  rw [List.mem_singleton] at hx
  rw [hx]; exact hs
theorem Spelt.skip {k : Nat} {st : Bool} {p q : Nat → Bool} {v U : Nat} {L : List (List UInt8)} (h : Spelt k st p q v U L) (hq : q v = false ∨ st = true) : Spelt k st p q (v + 1) U L := by
 refine ⟨h.items, h.sub, h.rest, h.gone, ?_, h.star, h.short⟩
 intro hst j hj hp
 by_cases e : j = v
 ·subst e
  rcases h.gone j hp with h1 | h1
  ·rcases hq with h2 | h2
   ·rw [h1] at h2; cases h2
   ·rw [hst] at h2; cases h2
  ·exact h1
 ·exact h.below hst j (by omega) hp
theorem step_bit {v last s t : Nat} (hh : last ≤ 59) (ht : v + t * s ≤ last) : (steps v last s).testBit (v + t * s) = true := by
 rw [steps_bit, decide_eq_true (by omega), decide_eq_true (by omega), decide_eq_true (by omega), Nat.add_sub_cancel_left, Nat.mul_mod_left]
 rfl
theorem bit_step {v last s j : Nat} (h : (steps v last s).testBit j = true) : j < 64 ∧ ∃ t, j = v + t * s ∧ v + t * s ≤ last := by
 rw [steps_bit] at h
 simp only [Bool.and_eq_true, decide_eq_true_eq, beq_iff_eq] at h
 obtain ⟨h1, ⟨h2, h3⟩, h4⟩ := h
 obtain ⟨t, ht⟩ := Nat.dvd_of_mod_eq_zero h4
 have e : j = v + t * s := by rw [Nat.mul_comm]; omega
 exact ⟨h1, t, e, by omega⟩
theorem Spelt.add {k : Nat} {st : Bool} {p q q' : Nat → Bool} {v U last s : Nat} {L : List (List UInt8)} {l : List UInt8} (h : Spelt k st p q v U L) (hl : ItemT k (loK k) (hiK k) (steps v last s) l) (hh : last ≤ hiK k) (hv : v ≤ last)
  (hp : ∀ t, v + t * s ≤ last → p (v + t * s) = true) (hn : l.length ≤ 40)
  (hq : ∀ j, q' j = true → q j = true) (hg : ∀ j, q j = true → q' j = true ∨ ∃ t, j = v + t * s ∧ v + t * s ≤ last) : Spelt k st p q' (v + 1) (U ||| (steps v last s ||| 0)) (L ++ [l]) := by
 have h59 := hiK_59 k
 have hb : ∀ j, (U ||| (steps v last s ||| 0)).testBit j = true ↔ U.testBit j = true ∨ (steps v last s).testBit j = true := by
  intro j
  rw [Nat.or_zero, Nat.testBit_or, Bool.or_eq_true]
 refine ⟨h.items.app (.cons hl .nil), ?_, fun j hj => h.rest j (hq j hj), ?_, ?_, ?_, ?_⟩
 ·intro j hj
  rcases (hb j).1 hj with h1 | h1
  ·exact h.sub j h1
  ·obtain ⟨h2, t, rfl, h3⟩ := bit_step h1
   exact .inl ⟨by omega, hp t h3⟩
 ·intro j hj
  rcases h.gone j hj with h1 | h1
  ·rcases hg j h1 with h2 | ⟨t, rfl, h2⟩
   ·exact .inl h2
   ·exact .inr ((hb _).2 (.inr (step_bit (by omega) h2)))
  ·exact .inr ((hb j).2 (.inl h1))
 ·intro hst j hj hpj
  by_cases e : j = v
  ·subst e
   have := step_bit (v := j) (last := last) (s := s) (t := 0) (by omega) (by omega)
   rw [Nat.zero_mul, Nat.add_zero] at this
   exact (hb j).2 (.inr this)
  ·exact (hb j).2 (.inl (h.below hst j (by omega) hpj))
 ·intro hst
  have := h.star hst
  exact ⟨(hb 63).2 (.inl this.1), fun j hj => (hb j).2 (.inl (this.2 j hj))⟩
 ·intro x hx
  rcases List.mem_append.1 hx with hx | hx
  ·exact h.short x hx
  ·rw [List.mem_singleton] at hx
   rw [hx]; exact hn
theorem Spelt.twice {k : Nat} {st : Bool} {p q : Nat → Bool} {v U b : Nat} {L : List (List UInt8)} {l : List UInt8} (h : Spelt k st p q v (U ||| (b ||| 0)) L) (hl : ItemT k (loK k) (hiK k) b l) (hn : l.length ≤ 40) : Spelt k st p q v (U ||| (b ||| 0)) (L ++ [l]) := by
 have e : (U ||| (b ||| 0)) ||| (b ||| 0) = U ||| (b ||| 0) := by rw [Nat.or_assoc, Nat.or_self]
 refine ⟨?_, h.sub, h.rest, h.gone, h.below, h.star, ?_⟩
 ·have := h.items.app (.cons hl .nil)
  rwa [e] at this
 ·intro x hx
  rcases List.mem_append.1 hx with hx | hx
  ·exact h.short x hx
  ·rw [List.mem_singleton] at hx
   rw [hx]; exact hn
theorem Spelt.all {k : Nat} {st : Bool} {p q : Nat → Bool} {v U : Nat} {L : List (List UInt8)} (h : Spelt k st p q v U L) (hg : GoodSet k st p) (hv : hiK k < v) : ItemsT k (loK k) (hiK k) (setN st p) L ∧ L ≠ [] := by
 have h59 := hiK_59 k
 have hin : ∀ j, p j = true → U.testBit j = true := by
  intro j hj
  cases hst : st with
  | false => exact h.below hst j (by have := hg.inn j hj; omega) hj
  | true => exact (h.star hst).2 j hj
 have e : U = setN st p := by
  apply Nat.eq_of_testBit_eq
  intro j
  by_cases hj : j < 63
  ·rw [setN_bit st p j hj]
   cases hp : p j with
   | true => exact hin j hp
   | false =>
    cases hu : U.testBit j with
    | false => rfl
    | true =>
     rcases h.sub j hu with h1 | h1
     ·rw [hp] at h1; cases h1.2
     ·omega
  ·by_cases h63 : j = 63
   ·subst h63
    rw [setN_star]
    cases hst : st with
    | true => exact (h.star hst).1
    | false =>
     cases hu : U.testBit 63 with
     | false => rfl
     | true =>
      rcases h.sub 63 hu with h1 | h1
      ·omega
      ·rw [hst] at h1; cases h1.2
   ·have h1 : U.testBit j = false := by
     cases hu : U.testBit j with
     | false => rfl
     | true => rcases h.sub j hu with h1 | h1 <;> omega
    rw [h1]
    unfold setN
    rw [Nat.testBit_or, mkBits_test, decide_eq_false (by omega), Bool.false_and, Bool.false_or]
    cases st with
    | false => simp
    | true => rw [if_pos rfl, bit63]; simp; omega
 refine ⟨by rw [← e]; exact h.items, ?_⟩
 rintro rfl
 obtain ⟨j, hj⟩ := hg.ex
 have h1 := hin j hj
 cases h.items
 simp at h1
end Go.Proofs.YtmecbmgfacpecaaGreatDoor.Cron
namespace Go.Proofs.YtmecbmgfacpecaaGreatDoor.Cron
open Go Go.RowKit Go.Proofs.YtmecbmgfacpecaaGreatDoor.Text Go.Proofs.YtmecbmgfacpecaaGreatDoor.Bits Go.Proofs.YtmecbmgfacpecaaGreatDoorW.PrintWords Go.Proofs.YtmecbmgfacpecaaGreatDoorW.PrintLast Go.Proofs.YtmecbmgfacpecaaGreatDoorW.PrintMore Go.Proofs.YtmecbmgfacpecaaGreatDoor.Pr Go.Proofs.YtmecbmgfacpecaaGreatDoor.CronN
set_option linter.unusedVariables false
set_option linter.unusedSimpArgs false
theorem swap_perm {α : Type} (L : List α) (i j : Nat) (hi : i < L.length) (hj : j < L.length) : ((L.set i L[j]).set j L[i]).Perm L := by
 have h := Array.swap_perm (xs := L.toArray) (i := i) (j := j) (by simpa using hi) (by simpa using hj)
 rw [Array.perm_iff_toList_perm] at h
 simpa [Array.toList_swap] using h
def strs (L : List (List UInt8)) : List Value := L.map fun x => .string (ba x)
theorem info_str : ∃ i, Tryz.prog.info? 9 = some i ∧ i.zero = some (.string ⟨#[]⟩) ∧ i.size = 1 ∧ i.bytes = 16 := by
 have h1 : (Tryz.prog.info? 9).map (fun i => (i.zero, i.size, i.bytes)) = some (some (.string ⟨#[]⟩), 1, 16) := by kernel_rfl
 cases h : Tryz.prog.info? 9 with
 | none => rw [h] at h1; cases h1
 | some i =>
  rw [h] at h1
  simp only [Option.map_some, Option.some.injEq, Prod.mk.injEq] at h1
  exact ⟨i, rfl, h1⟩
structure Items (w0 w : World) (g r : Nat) (v7 : Value) (L : List (List UInt8)) (st : Bool) (p q : Nat → Bool) (wr : World) : Prop where
 sty : StyTo w0 w g wr
 whole : IsSet wr w.heap.size st p
 rest : IsSet wr r st q
 row : wr.ownsRow w.heap.size 9 1 v7 L.length (strs L)
 far : w.heap.size ≤ r
 glt : g < w.heap.size
 base : w0.heap.size ≤ w.heap.size
theorem own_not {w : World} {base : Nat} {e : TypeId} {size n : Nat} {v : Value} {xs : List Value} (h : w.ownsRow base e size v n xs) {c : Nat} {cs : Array Value} {t : TypeId} {fr : Nat × Nat} (hc : w.heap[c]? = some (.cells cs t fr)) (ht : e ≠ t) : v.ownBlock ≠ some c := by
 intro hk
 obtain ⟨cells, h1⟩ := own_typed h c hk
 rw [h1] at hc
 simp only [Option.some.injEq, Obj.cells.injEq] at hc
 exact ht hc.2.1
theorem Items.call {w0 w : World} {g r : Nat} {v7 : Value} {L : List (List UInt8)} {st : Bool} {p q : Nat → Bool} {wr w' : World} (h : Items w0 w g r v7 L st p q wr) (k : StyTo w0 wr g w') : Items w0 w g r v7 L st p q w' := by
 have hg := h.glt
 have hf := h.far
 exact ⟨h.sty.trans k, (k.2.2 _ h.whole.lt (by omega) (by simp)).trans h.whole, (k.2.2 _ h.rest.lt (by omega) (by simp)).trans h.rest,
  own_move h.row (fun b hb => k.2.2 b (h.row.lt b hb).2 (by have := (h.row.lt b hb).1; omega) (by simp)), hf, hg, h.base⟩
theorem Items.below {w0 w : World} {g r : Nat} {v7 : Value} {L : List (List UInt8)} {st : Bool} {p q : Nat → Bool} {wr w' : World} (h : Items w0 w g r v7 L st p q wr) (hb : Below wr.heap.size wr w') : Items w0 w g r v7 L st p q w' := h.call (h.sty.1.below hb)
theorem Items.put {w0 w : World} {g r : Nat} {v7 : Value} {L : List (List UInt8)} {st : Bool} {p q : Nat → Bool} {wr : World} (h : Items w0 w g r v7 L st p q wr) (hr : w.heap.size < r) (x : Nat) (hx : x < 63) (b : Bool) : Items w0 w g r v7 L st p (fun i => if i = x then b else q i) (wr.setCell ⟨r, x + 1, none⟩ (.bool b)) := by
 have hg := h.glt
 have h0 := h.base
 refine ⟨h.sty.set (by omega) (by omega) (by omega) _ _, h.whole.other (by show w.heap.size ≠ r; omega) _, h.rest.put x hx b, own_move h.row (fun c hc => ?_), h.far, hg, h0⟩
 exact heap_setCell_other _ _ _ _ (fun e => own_not h.row h.rest (by decide) (by rw [hc]; exact congrArg some e))
theorem StyTo.grown {w0 w wr w' : World} {g : Nat} {row : Option Nat} (h : StyTo w0 w g wr) (hg : wr.grownBy w' row) (hrow : ∀ c, row = some c → w.heap.size ≤ c) (glt : g < w.heap.size) (h0 : w0.heap.size ≤ w.heap.size) : StyTo w0 w g w' := by
 obtain ⟨⟨hB, L, i, hI, h1⟩, hk⟩ := h
 obtain ⟨A, c, hb, hgg, hr⟩ := hI
 have hs := hk.1
 refine ⟨⟨Below.grown hB hg hB.size (fun c hc => by have := hrow c hc; omega), L, i, ⟨A, c, (hg.block g (by omega) (fun e => by have := hrow g e.symm; omega)).trans hb, hgg, hr⟩, h1⟩, Nat.le_trans hs hg.size, fun b hb hbg hr => ?_⟩
 exact (hg.block b (by omega) (fun e => by have := hrow b e.symm; omega)).trans (hk.2 b hb hbg hr)
theorem Items.regrown {w0 w : World} {g r : Nat} {v7 v' : Value} {L L' : List (List UInt8)} {st : Bool} {p q : Nat → Bool} {wr w' : World} (h : Items w0 w g r v7 L st p q wr) (hg : wr.grownBy w' v7.ownBlock) (hr : w'.ownsRow w.heap.size 9 1 v' L'.length (strs L')) : Items w0 w g r v' L' st p q w' :=
 ⟨h.sty.grown hg (fun c hc => (h.row.lt c hc).1) h.glt h.base, (hg.block _ h.whole.lt (fun e => own_not h.row h.whole (by decide) e.symm)).trans h.whole, (hg.block _ h.rest.lt (fun e => own_not h.row h.rest (by decide) e.symm)).trans h.rest, hr, h.far, h.glt, h.base⟩
theorem Items.add {w0 w : World} {g r : Nat} {v7 v' : Value} {L : List (List UInt8)} {l : List UInt8} {st : Bool} {p q : Nat → Bool} {wr w' : World} (h : Items w0 w g r v7 L st p q wr) (hg : wr.grownBy w' v7.ownBlock) (hr : w'.ownsRow w.heap.size 9 1 v' (L.length + 1) (strs L ++ [.string (ba l)])) : Items w0 w g r v' (L ++ [l]) st p q w' :=
 h.regrown hg (by rw [List.length_append, List.length_singleton, show strs (L ++ [l]) = strs L ++ [.string (ba l)] by simp [strs]]; exact hr)
theorem Items.move {w0 w : World} {g r r' : Nat} {v7 : Value} {L : List (List UInt8)} {st : Bool} {p q : Nat → Bool} {wr w' : World} (h : Items w0 w g r v7 L st p q wr) (hb : Below wr.heap.size wr w') (hs : IsSet w' r' st q) (hr : w.heap.size ≤ r') : Items w0 w g r' v7 L st p q w' :=
 have k := h.below hb
 ⟨k.sty, k.whole, hs, k.row, hr, k.glt, k.base⟩
theorem Items.swap {w0 w : World} {g r b cap : Nat} {L : List (List UInt8)} {st : Bool} {p q : Nat → Bool} {wr : World} (h : Items w0 w g r (.slice (some ⟨b, 0, none⟩) L.length cap) L st p q wr) (i j : Nat) (x y : List UInt8) : Items w0 w g r (.slice (some ⟨b, 0, none⟩) L.length cap) ((L.set i x).set j y) st p q ((wr.setCell ⟨b, i, none⟩ (.string (ba x))).setCell ⟨b, j, none⟩ (.string (ba y))) := by
 obtain ⟨r1, g1⟩ := h.row.stored i (.string (ba x))
 have e1 : (strs L).set i (.string (ba x)) = strs (L.set i x) := by simp [strs, List.map_set]
 rw [e1] at r1
 have h1 : Items w0 w g r (.slice (some ⟨b, 0, none⟩) L.length cap) (L.set i x) st p q (wr.setCell ⟨b, i, none⟩ (.string (ba x))) := h.regrown g1 (by rw [List.length_set]; exact r1)
 obtain ⟨r2, g2⟩ := r1.stored j (.string (ba y))
 have e2 : (strs (L.set i x)).set j (.string (ba y)) = strs ((L.set i x).set j y) := by simp [strs, List.map_set]
 rw [e2] at r2
 exact h1.regrown g2 (by rw [List.length_set, List.length_set]; exact r2)
theorem Items.swap2 {w0 w : World} {g r b cap m : Nat} {L : List (List UInt8)} {st : Bool} {p q : Nat → Bool} {wr : World} (h : Items w0 w g r (.slice (some ⟨b, 0, none⟩) m cap) L st p q wr) (hm : L.length = m) (i j : Nat) (x y : List UInt8) : Items w0 w g r (.slice (some ⟨b, 0, none⟩) m cap) ((L.set i x).set j y) st p q ((wr.setCell ⟨b, i, none⟩ (.string (ba x))).setCell ⟨b, j, none⟩ (.string (ba y))) := by
 subst hm
 exact h.swap i j x y
theorem Items.drew {w0 w : World} {g r : Nat} {v7 : Value} {L : List (List UInt8)} {st : Bool} {p q : Nat → Bool} {wr : World} (h : Items w0 w g r v7 L st p q wr) : Items w0 w g r v7 L st p q wr.drew := h.below (Below.refl _ _).drew
theorem Items.cell {w0 w : World} {g r b cap n : Nat} {L : List (List UInt8)} {st : Bool} {p q : Nat → Bool} {wr : World} (h : Items w0 w g r (.slice (some ⟨b, 0, none⟩) n cap) L st p q wr) (hn : n = L.length) (j : Nat) (hj : j < L.length) : wr.cell? ⟨b, j, none⟩ = some (.string (ba L[j])) := by
 subst hn
 rw [h.row.cellAt j (by omega)]
 simp [strs, hj]
theorem Items.froz {w0 w : World} {g r b cap m : Nat} {L : List (List UInt8)} {st : Bool} {p q : Nat → Bool} {wr : World} (h : Items w0 w g r (.slice (some ⟨b, 0, none⟩) m cap) L st p q wr) (hm : L.length = m) (j : Nat) : wr.frozen? ⟨b, j, none⟩ = false := by
 subst hm
 exact h.row.frozenAt j
theorem Items.cell2 {w0 w : World} {g r b cap m : Nat} {L : List (List UInt8)} {st : Bool} {p q : Nat → Bool} {wr : World} (h : Items w0 w g r (.slice (some ⟨b, 0, none⟩) m cap) L st p q wr) (hm : L.length = m) (i j : Nat) (hj : j < L.length) (u : Value) :
  (wr.setCell ⟨b, i, none⟩ u).cell? ⟨b, j, none⟩ = some (if i = j then u else .string (ba L[j])) ∧ (wr.setCell ⟨b, i, none⟩ u).frozen? ⟨b, j, none⟩ = false := by
 subst hm
 obtain ⟨h1, -⟩ := h.row.stored i u
 refine ⟨?_, h1.frozenAt j⟩
 rw [h1.cellAt j (by omega), List.getElem?_set]
 by_cases e : i = j
 ·subst e
  simp [strs, hj]
 ·simp [e, strs, hj]
def TextsAns (w0 w : World) (g k : Nat) (st : Bool) (p : Nat → Bool) (e : Ending) (w' : World) : Prop :=
 ∃ (b cap : Nat) (L : List (List UInt8)), e = .returned (.slice (some ⟨b, 0, none⟩) L.length cap) ∧ ItemsT k (loK k) (hiK k) (setN st p) L ∧ L ≠ [] ∧ (∀ x ∈ L, x.length ≤ 40) ∧ L.length ≤ 130 ∧
  w'.ownsRow w.heap.size 9 1 (.slice (some ⟨b, 0, none⟩) L.length cap) L.length (strs L) ∧ StyTo w0 w g w'
theorem not_one {r : Nat} (h : r ≠ 1) : ((r : Int) == 1) = false := by rw [beq_eq_false_iff_ne]; omega
theorem ne_one {r : Nat} (h : r ≠ 1) : ((r : Int) != 1) = true := by rw [bne_iff_ne]; omega
theorem gone_step {v s n x last : Nat} {q q2 : Nat → Bool} (hx : x = v + n * s) (hl : x ≤ last) (h : ∀ j, q j = true → q2 j = true ∨ ∃ t, j = v + t * s ∧ v + t * s ≤ last) : ∀ j, q j = true → (fun i => if i = x then false else q2 i) j = true ∨ ∃ t, j = v + t * s ∧ v + t * s ≤ last := by
 intro j hj
 by_cases e : j = x
 ·exact .inr ⟨n, by rw [e, hx], by rw [← hx]; exact hl⟩
 ·rcases h j hj with h1 | h1
  ·exact .inl (by show (if j = x then false else q2 j) = true; rw [if_neg e]; exact h1)
  ·exact .inr h1
theorem sub_step {x : Nat} {q q2 : Nat → Bool} (h : ∀ j, q2 j = true → q j = true) : ∀ j, (fun i => if i = x then false else q2 i) j = true → q j = true := by
 intro j hj
 by_cases e : j = x
 ·simp [e] at hj
 ·exact h j (by simpa [e] using hj)
set_option maxRecDepth 100000 in
set_option maxHeartbeats 16000000 in
theorem itemTexts_any {w0 w : World} {g : Nat} (hs : Sty w0 w g) (k : Nat) (hk : k < 6) (st : Bool) (p : Nat → Bool) (hg : GoodSet k st p) :
  Calls Tryz.prog 132 #[.int .i64 k, .agg (setCells st p), .pointer (some ⟨g, 0, none⟩)] w (TextsAns w0 w g k st p) := by
 have hbx := run_box_set st p
 have hal := run_alloc_set
 have HIT0 : Hid (Items w0 w g w.heap.size (.slice none 0 0) [] st p p (w.alloc (.cells (setCells st p) 56))) := Lib.hid
  ⟨hs.below ((Below.refl w.heap.size w).alloc (Nat.le_refl _) _), isSet_new w st p, isSet_new w st p, World.ownsRow_nil _ _ _ _, Nat.le_refl _, hs.lt.2, hs.1.size⟩
 have HP := Lib.hid (fun n hn w' (h : Sty w0 w' g) => pick_any h n hn)
 have HH := Lib.hid (fun w' => spec_CronHigh.calls k (hiK k : Nat) w' (high_f k))
 have HL := Lib.hid (fun w' => spec_CronLow.calls k (loK k : Nat) w' (low_f k))
 have HTX := Lib.hid (fun v h1 h2 h3 w' (h0 : Sty w0 w' g) => itemText_any h0 k v hk st p h1 h2 h3)
 have HST := Lib.hid (fun (h : loK k ≤ hiK k) w' (h0 : Sty w0 w' g) => starText_any h0 k (loK k) (hiK k) hk h)
 have hh59 := hiK_59 k
 have hlo1 := loK_1 k
 have hlh : loK k ≤ hiK k := by obtain ⟨j, hj⟩ := hg.ex; have := hg.inn j hj; omega
 have HG := Lib.hid hg
 obtain ⟨i0, hi0, hz0, hs0, hy0⟩ := info_str
 have HI := Lib.hid hi0
 have HZ := Lib.hid hz0
 have HSZ := Lib.hid hs0
 have HY := Lib.hid hy0
 clear hs hg hi0 hz0 hs0 hy0
 go_enter Tryz.func132, Tryz.ntmps132
 go_upto_region 2 with fail
 generalize World.alloc w _ = wa at HIT0
 have hc0 := HIT0.out.whole.cell0
 cases st with
 | false =>
  have HSP0 := Lib.hid (spelt_start HG.out)
  go_upto_region 4 with fail
  have HRW := Lib.hid (show w.heap.size < wa.heap.size from HIT0.out.whole.lt)
  go_wp2_with (first | (refine wpList_load_set rfl _ rfl w.heap.size false p rfl HIT0.out.whole ?_) | (refine wpList_store_set rfl _ _ rfl wa.heap.size false p rfl rfl false noSet (isSet_lit wa) ?_; generalize hX : World.setRow _ _ _ = wx; have HX := Lib.hid (HIT0.out.move (show Below wa.heap.size wa wx by rw [← hX]; exact below_setRow ((Below.refl _ _).alloc (Nat.le_refl _) _) (Nat.le_refl _) _) (show IsSet wx wa.heap.size false p by rw [← hX]; exact (isSet_lit wa).store false p) (Nat.le_of_lt HIT0.out.whole.lt)); clear hX))
  refine (HL.out _).mono ?_
  rintro e wl ⟨rfl, hdl⟩
  have HITL := Lib.hid (HX.out.below hdl.below)
  clear hdl HX HIT0
  go_wp2_with fail
  generalize hR : wa.heap.size = R at *
  go_loopw [7, 9] (fun v7 v9 wr => ∃ (v U : Nat) (L : List (List UInt8)) (q : Nat → Bool), v9 = .int .i64 v ∧ loK k ≤ v ∧ v ≤ hiK k + 1 ∧ L.length ≤ 2 * v + 1 ∧ Hid (Spelt k false p q v U L) ∧ Hid (Items w0 w g R v7 L false p q wr)) (fun _ v9 _ => hiK k + 1 - (intOf v9).toNat)
  case atStart => exact ⟨loK k, 0, [], p, rfl, by omega, by omega, by simp, HSP0, HITL⟩
  case round =>
   obtain ⟨v, U, L, q, rfl, hv0, hv1, hlen, HSP, HIT⟩ := hrel
   clear HITL HSP0
   go_wp2_with fail
   refine (HH.out _).mono ?_
   rintro e w1 ⟨rfl, hd1⟩
   have HIT1 := Lib.hid (HIT.out.below hd1.below)
   clear hd1 HIT
   by_cases hvh : v ≤ hiK k
   ·have hd : decide ((v : Int) ≤ hiK k) = true := decide_eq_true (by omega)
    have hv63 : (v : Int) < 63 := by omega
    have hvp : (0 : Int) ≤ v := by omega
    have hc := HIT1.out.rest.cellAt v (by omega)
    rw [Nat.add_comm v 1] at hc
    have hc1 := HIT1.out.whole.cell0
    obtain ⟨b, hb⟩ : ∃ b, q v = b := ⟨_, rfl⟩
    have HQ := Lib.hid hb
    rw [hb] at hc
    clear hb
    cases b with
    | false =>
     go_wp2_with fail
     go_roundw
     case rel => exact ⟨v + 1, U, L, q, by go_num, by omega, by omega, by omega, Lib.hid (HSP.out.skip (.inl HQ.out)), HIT1⟩
     case measure => simp [intOf]; omega
    | true =>
     go_wp2_with (refine wpList_load_set rfl _ rfl w.heap.size false p rfl HIT1.out.whole ?_)
     refine (HTX.out v hv0 hvh (HSP.out.rest v HQ.out) _ HIT1.out.sty.1).mono ?_
     rintro e w3 ⟨l, last, s, hl, hll, hvl, hlh2, hs1, hs12, hps, rfl, hst3⟩
     have HIT3 := Lib.hid (HIT1.out.call hst3)
     have HLT := Lib.hid hl
     have HPS := Lib.hid hps
     clear hl hps hst3 HIT1 hc hc1 hc0
     go_wp2_with fail
     go_loopw [13] (fun v13 wr => ∃ (n x : Nat) (q2 : Nat → Bool), v13 = .int .i64 x ∧ Hid (x = v + n * s) ∧ x ≤ last + s ∧ Hid (∀ j, q2 j = true → q j = true) ∧ Hid (∀ j, q j = true → q2 j = true ∨ ∃ t, j = v + t * s ∧ v + t * s ≤ last) ∧ Hid (Items w0 w g R u7 L false p q2 wr)) (fun v13 _ => last + 13 - (intOf v13).toNat)
     case atStart => exact ⟨0, v, q, rfl, Lib.hid (by omega), by omega, Lib.hid (fun _ h => h), Lib.hid (fun _ h => .inl h), HIT3⟩
     case round =>
      obtain ⟨n, x, q2, rfl, HX, hxl, HQ1, HQ2, HIT4⟩ := hrel
      clear HIT3
      by_cases hle : x ≤ last
      ·have hdx : decide ((x : Int) ≤ last) = true := decide_eq_true (by omega)
       have hx63 : (x : Int) < 63 := by omega
       have hx0 : (0 : Int) ≤ x := by omega
       have hcx := HIT4.out.rest.cellAt x (by omega)
       have hfx := HIT4.out.rest.free (x + 1)
       rw [Nat.add_comm x 1] at hcx hfx
       go_wp2_with fail
       go_roundw
       case rel => exact ⟨n + 1, x + s, fun i => if i = x then false else q2 i, by go_num, Lib.hid (by rw [HX.out, Nat.succ_mul]; omega), by omega, Lib.hid (sub_step HQ1.out), Lib.hid (gone_step HX.out hle HQ2.out), Lib.hid (by rw [Nat.add_comm 1 x]; exact HIT4.out.put HRW.out x (by omega) false)⟩
       case measure => simp [intOf]; omega
      ·have hdx : decide ((x : Int) ≤ last) = false := decide_eq_false (by omega)
       have HSP2 := Lib.hid (HSP.out.add HLT.out hlh2 hvl HPS.out hll HQ1.out HQ2.out)
       clear HX HQ1 HQ2
       go_wp2_with (at_builtin; refine wpList_append_lies _ rfl _ _ _ rfl w.heap.size 9 i0 (.string ⟨#[]⟩) 1 16 Tryz.underlying33 HI.out HZ.out HSZ.out HY.out rfl (by omega) u7 L.length (strs L) rfl (HIT4.out.row.alloc _) ⟨wr.heap.size, 0, none⟩ 1 1 [.string (ba l)] rfl rfl (cell_one_new _ _ _) (by simp [Value.oneCell']) (by omega) (by simp only [maxLen]; omega) (by omega) (by have := HIT4.out.sty.2.1; simp; omega) (wr.heap.size + 1) (by simp) ?_; intro h cap' w5 hown hgrow hat hlt; have HIT5 := Lib.hid ((HIT4.out.below ((Below.refl _ _).alloc (Nat.le_refl _) _)).add hgrow hown); clear hown hgrow hat)
       refine (HP.out 8 (by omega) _ HIT5.out.sty.1).mono ?_
       rintro e w6 ⟨r6, hr6, rfl, hst6⟩
       have HIT6 := Lib.hid (HIT5.out.call hst6)
       clear hst6 HIT5
       by_cases h1 : r6 = 1
       ·subst h1
        have HSP3 := Lib.hid (HSP2.out.twice HLT.out hll)
        have hln : (L ++ [l]).length = L.length + 1 := by simp
        go_wp2_with (at_builtin; refine wpList_append_lies _ rfl _ _ _ rfl w.heap.size 9 i0 (.string ⟨#[]⟩) 1 16 Tryz.underlying33 HI.out HZ.out HSZ.out HY.out rfl (by omega) _ (L ++ [l]).length (strs (L ++ [l])) rfl (HIT6.out.row.alloc _) ⟨w6.heap.size, 0, none⟩ 1 1 [.string (ba l)] rfl rfl (cell_one_new _ _ _) (by simp [Value.oneCell']) (by omega) (by simp only [maxLen]; omega) (by omega) (by have := HIT6.out.sty.2.1; simp; omega) (w6.heap.size + 1) (by simp) ?_; intro h cap' w7 hown hgrow hat hlt; have HIT7 := Lib.hid ((HIT6.out.below ((Below.refl _ _).alloc (Nat.le_refl _) _)).add hgrow hown); clear hown hgrow hat)
        rw [hln] at HIT7
        go_roundw
        case rel => exact ⟨v + 1, _, L ++ [l] ++ [l], q2, by go_num, by omega, by omega, by simp; omega, HSP3, HIT7⟩
        case measure => simp [intOf]; omega
       ·have hd1 := not_one h1
        go_wp2_with fail
        go_roundw
        case rel => exact ⟨v + 1, _, L ++ [l], q2, by go_num, by omega, by omega, by simp; omega, HSP2, HIT6⟩
        case measure => simp [intOf]; omega
   ·have hd : decide ((v : Int) ≤ hiK k) = false := decide_eq_false (by omega)
    obtain rfl : v = hiK k + 1 := by omega
    obtain ⟨hall, hne⟩ := HSP.out.all HG.out (by omega)
    have hpos : 0 < L.length := List.length_pos_iff.2 hne
    obtain ⟨b, cap, rfl, hbw, -⟩ := HIT1.out.row.form hpos
    have HALL := Lib.hid (And.intro hall HSP.out.short)
    clear hall hne HSP HTX HST HG
    obtain ⟨m, hm⟩ : ∃ m, L.length = m := ⟨_, rfl⟩
    have HM := Lib.hid hm
    rw [hm] at HIT1 hpos hlen ⊢
    clear hm
    go_wp2_with fail
    go_loopw [79] (fun v79 wr => ∃ (i : Nat) (L2 : List (List UInt8)), v79 = .int .i64 i ∧ i ≤ m ∧ Hid (L2.Perm L) ∧ Hid (Items w0 w g R (.slice (some ⟨b, 0, none⟩) m cap) L2 false p q wr)) (fun v79 _ => m - (intOf v79).toNat)
    case atStart => exact ⟨0, L, rfl, by omega, Lib.hid (List.Perm.refl _), HIT1⟩
    case round =>
     obtain ⟨i, L2, rfl, him, HPM, HIT2⟩ := hrel
     clear HIT1 hc0
     have hl2 : L2.length = m := HPM.out.length_eq.trans HM.out
     by_cases hi : i < m
     ·have hdi : decide ((i : Int) < m) = true := decide_eq_true (by omega)
      have hi130 : (i : Int) < 130 := by omega
      have hi0 : (0 : Int) ≤ i := by omega
      go_wp2_with fail
      rw [show (i : Int) + 1 = ((i + 1 : Nat) : Int) by push_cast; rfl]
      refine (HP.out (i + 1) (by omega) _ HIT2.out.sty.1).mono ?_
      rintro e w2 ⟨j, hj, rfl, hst2⟩
      have HIT3 := Lib.hid (HIT2.out.call hst2)
      clear hst2 HIT2
      go_wp2_with fail
      refine (HP.out 2 (by omega) _ HIT3.out.sty.1).mono ?_
      rintro e w3 ⟨r3, hr3, rfl, hst3⟩
      have HIT4 := Lib.hid (HIT3.out.call hst3)
      clear hst3 HIT3
      by_cases h1 : r3 = 1
      ·subst h1
       have hji : j < m := by omega
       have hil : (i : Int) < m := by omega
       have hjl : (j : Int) < m := by omega
       have hj0 : (0 : Int) ≤ j := by omega
       have hci := HIT4.out.cell hl2.symm i (by omega)
       have hcj := HIT4.out.cell hl2.symm j (by omega)
       have hfi : w3.frozen? ⟨b, i, none⟩ = false := HIT4.out.froz hl2 i
       have hcj2 : ∀ u, (w3.setCell ⟨b, i, none⟩ u).cell? ⟨b, j, none⟩ = some (if i = j then u else .string (ba (L2[j]'(by omega)))) := fun u => (HIT4.out.cell2 hl2 i j (by omega) u).1
       have hfj2 : ∀ u, (w3.setCell ⟨b, i, none⟩ u).frozen? ⟨b, j, none⟩ = false := fun u => (HIT4.out.cell2 hl2 i j (by omega) u).2
       have HCI := Lib.hid hci
       have HCJ := Lib.hid hcj
       obtain ⟨xi, hxi⟩ : ∃ xi, xi = L2[i]'(by omega) := ⟨_, rfl⟩
       obtain ⟨xj, hxj⟩ : ∃ xj, xj = L2[j]'(by omega) := ⟨_, rfl⟩
       have HXI := Lib.hid hxi
       have HXJ := Lib.hid hxj
       rw [← hxi] at hci
       rw [← hxj] at hcj hcj2
       clear hxi hxj HCI HCJ
       go_upto_region 22 with fail
       refine start_ (n := 16) (S := fun w' => w'.cell? ⟨b, i, none⟩ = some (.string (ba xi)) ∧ w'.cell? ⟨b, j, none⟩ = some (.string (ba xj))) (ds := [13, 15]) #[false, false, false, false, false, false, false, false, false, false, false, false, false, false, false, false] (by kernel_rfl) rfl rfl ⟨hci, hcj⟩ (fun hHeld => ?_)
       refine pure_ (i := 0) (N := some 89) (v := ?_) (a' := ?_) #[true, false, false, false, false, false, false, false, false, false, false, false, false, false, false, false] rfl rfl (by kernel_rfl) (fun _ _ _ h => h) (Or.inl ⟨by rfl, ?_⟩) ?_ ?_
       rotate_left
       ·intro w'
        go_simp
        with_reducible rfl
       rotate_left
       ·simp only [Act.put, List.setIfInBounds_toArray, List.set_cons_zero, List.set_cons_succ, i64_w, i32_w]
        rfl
       refine pure_ (i := 1) (N := some 90) (v := ?_) (a' := ?_) #[true, true, false, false, false, false, false, false, false, false, false, false, false, false, false, false] rfl rfl (by kernel_rfl) (fun _ _ _ h => h) (Or.inl ⟨by rfl, ?_⟩) ?_ ?_
       rotate_left
       ·intro w'
        go_simp
        with_reducible rfl
       rotate_left
       ·simp only [Act.put, List.setIfInBounds_toArray, List.set_cons_zero, List.set_cons_succ, i64_w, i32_w]
        rfl
       refine pure_ (i := 2) (N := some 91) (v := ?_) (a' := ?_) #[true, true, true, false, false, false, false, false, false, false, false, false, false, false, false, false] rfl rfl (by kernel_rfl) (fun _ _ _ h => h) (Or.inl ⟨by rfl, ?_⟩) ?_ ?_
       rotate_left
       ·intro w'
        go_simp
        with_reducible rfl
       rotate_left
       ·simp only [Act.put, List.setIfInBounds_toArray, List.set_cons_zero, List.set_cons_succ, i64_w, i32_w]
        rfl
       refine pure_ (i := 3) (N := some 92) (v := ?_) (a' := ?_) #[true, true, true, true, false, false, false, false, false, false, false, false, false, false, false, false] rfl rfl (by kernel_rfl) (fun _ _ _ h => h) (Or.inl ⟨by rfl, ?_⟩) ?_ ?_
       rotate_left
       ·intro w'
        go_simp
        with_reducible rfl
       rotate_left
       ·simp only [Act.put, List.setIfInBounds_toArray, List.set_cons_zero, List.set_cons_succ, i64_w, i32_w]
        rfl
       refine pure_ (i := 4) (N := some 93) (v := ?_) (a' := ?_) #[true, true, true, true, true, false, false, false, false, false, false, false, false, false, false, false] rfl rfl (by kernel_rfl) (fun _ _ _ h => h) (Or.inl ⟨by rfl, ?_⟩) ?_ ?_
       rotate_left
       ·intro w'
        go_simp
        with_reducible rfl
       rotate_left
       ·simp only [Act.put, List.setIfInBounds_toArray, List.set_cons_zero, List.set_cons_succ, i64_w, i32_w]
        rfl
       refine pure_ (i := 5) (N := some 94) (v := ?_) (a' := ?_) #[true, true, true, true, true, true, false, false, false, false, false, false, false, false, false, false] rfl rfl (by kernel_rfl) (fun _ _ _ h => h) (Or.inl ⟨by rfl, ?_⟩) ?_ ?_
       rotate_left
       ·intro w'
        go_simp
        with_reducible rfl
       rotate_left
       ·simp only [Act.put, List.setIfInBounds_toArray, List.set_cons_zero, List.set_cons_succ, i64_w, i32_w]
        rfl
       refine pure_ (i := 6) (N := some 95) (v := ?_) (a' := ?_) #[true, true, true, true, true, true, true, false, false, false, false, false, false, false, false, false] rfl rfl (by kernel_rfl) (fun _ _ _ h => h) (Or.inl ⟨by rfl, ?_⟩) ?_ ?_
       rotate_left
       ·intro w'
        go_simp
        with_reducible rfl
       rotate_left
       ·simp only [Act.put, List.setIfInBounds_toArray, List.set_cons_zero, List.set_cons_succ, i64_w, i32_w]
        rfl
       refine pure_ (i := 8) (N := some 97) (v := ?_) (a' := ?_) #[true, true, true, true, true, true, true, false, true, false, false, false, false, false, false, false] rfl rfl (by kernel_rfl) (fun _ _ _ h => h) (Or.inl ⟨by rfl, ?_⟩) ?_ ?_
       rotate_left
       ·intro w'
        go_simp
        with_reducible rfl
       rotate_left
       ·simp only [Act.put, List.setIfInBounds_toArray, List.set_cons_zero, List.set_cons_succ, i64_w, i32_w]
        rfl
       refine pure_ (i := 9) (N := some 98) (v := ?_) (a' := ?_) #[true, true, true, true, true, true, true, false, true, true, false, false, false, false, false, false] rfl rfl (by kernel_rfl) (fun _ _ _ h => h) (Or.inl ⟨by rfl, ?_⟩) ?_ ?_
       rotate_left
       ·intro w'
        go_simp
        with_reducible rfl
       rotate_left
       ·simp only [Act.put, List.setIfInBounds_toArray, List.set_cons_zero, List.set_cons_succ, i64_w, i32_w]
        rfl
       refine pure_ (i := 10) (N := some 99) (v := ?_) (a' := ?_) #[true, true, true, true, true, true, true, false, true, true, true, false, false, false, false, false] rfl rfl (by kernel_rfl) (fun _ _ _ h => h) (Or.inl ⟨by rfl, ?_⟩) ?_ ?_
       rotate_left
       ·intro w'
        go_simp
        with_reducible rfl
       rotate_left
       ·simp only [Act.put, List.setIfInBounds_toArray, List.set_cons_zero, List.set_cons_succ, i64_w, i32_w]
        rfl
       refine take_ (i := 7) (N := some 96) (v := ?_) (a' := ?_) #[true, true, true, true, true, true, true, true, true, true, true, false, false, false, false, false] rfl rfl (by kernel_rfl) (fun _ _ _ h => h) (Or.inl ⟨by rfl, ?_⟩) hHeld ?_ ?_
       rotate_left
       ·rintro w' ⟨s0, s1⟩
        go_simp
        with_reducible rfl
       rotate_left
       ·simp only [Act.put, List.setIfInBounds_toArray, List.set_cons_zero, List.set_cons_succ, i64_w, i32_w]
        rfl
       refine take_ (i := 11) (N := some 100) (v := ?_) (a' := ?_) #[true, true, true, true, true, true, true, true, true, true, true, true, false, false, false, false] rfl rfl (by kernel_rfl) (fun _ _ _ h => h) (Or.inl ⟨by rfl, ?_⟩) hHeld ?_ ?_
       rotate_left
       ·rintro w' ⟨s0, s1⟩
        go_simp
        with_reducible rfl
       rotate_left
       ·simp only [Act.put, List.setIfInBounds_toArray, List.set_cons_zero, List.set_cons_succ, i64_w, i32_w]
        rfl
       refine pure_ (i := 12) (N := some 101) (v := ?_) (a' := ?_) #[true, true, true, true, true, true, true, true, true, true, true, true, true, false, false, false] rfl rfl (by kernel_rfl) (fun _ _ _ h => h) (Or.inl ⟨by rfl, ?_⟩) ?_ ?_
       rotate_left
       ·intro w'
        go_simp
        with_reducible rfl
       rotate_left
       ·simp only [Act.put, List.setIfInBounds_toArray, List.set_cons_zero, List.set_cons_succ, i64_w, i32_w]
        rfl
       refine last_ (i := 13) (N := none) #[true, true, true, true, true, true, true, true, true, true, true, true, true, true, false, false] rfl rfl (by kernel_rfl) (by decide) (fun K hK => ?_)
       refine skip_ (w1 := ?_) (by rfl) rfl ?_ ?_
       rotate_left
       ·go_simp
        rfl
       refine hK.out _ _ ?_
       clear hK K
       refine pure_ (i := 14) (N := some 102) (v := ?_) (a' := ?_) #[true, true, true, true, true, true, true, true, true, true, true, true, true, true, true, false] rfl rfl (by kernel_rfl) (fun _ _ _ h => h) (Or.inl ⟨by rfl, ?_⟩) ?_ ?_
       rotate_left
       ·intro w'
        go_simp
        with_reducible rfl
       rotate_left
       ·simp only [Act.put, List.setIfInBounds_toArray, List.set_cons_zero, List.set_cons_succ, i64_w, i32_w]
        rfl
       refine last_ (i := 15) (N := none) #[true, true, true, true, true, true, true, true, true, true, true, true, true, true, true, true] rfl rfl (by kernel_rfl) (by decide) (fun K hK => ?_)
       refine skip_ (w1 := ?_) (by rfl) rfl ?_ ?_
       rotate_left
       ·go_simp
        rfl
       refine hK.out _ _ ?_
       clear hK K
       refine done_ (by kernel_rfl) ?_
       clear hci hcj hcj2 hfi hfj2 hHeld
       go_wp2_with fail
       have HNEW := Lib.hid ((HIT4.out.swap2 hl2 i j xj xi).drew)
       go_roundw
       case rel => exact ⟨i + 1, (L2.set i xj).set j xi, by go_num, by omega, Lib.hid (by rw [HXJ.out, HXI.out]; exact (swap_perm L2 i j (by omega) (by omega)).trans HPM.out), HNEW⟩
       case measure => simp [intOf]; omega
      ·have hd1 := not_one h1
       go_wp2_with fail
       go_roundw
       case rel => exact ⟨i + 1, L2, by go_num, by omega, HPM, HIT4⟩
       case measure => simp [intOf]; omega
     ·have hdi : decide ((i : Int) < m) = false := decide_eq_false (by omega)
      go_wp2_with fail
      go_ret
      obtain ⟨hall, hsh⟩ := HALL.out
      have hp2 := HPM.out
      have hr2 := HIT2.out.row
      subst hl2
      exact ⟨b, cap, L2, rfl, hall.perm hp2.symm, (by rintro rfl; simp at hpos), fun x hx => hsh x (hp2.mem_iff.1 hx), by omega, hr2, HIT2.out.sty⟩
 | true =>
  go_wp2_with fail
  refine (HST.out hlh _ HIT0.out.sty.1).mono ?_
  rintro e w1 ⟨l, hl, hll, rfl, hst1⟩
  have HIT1 := Lib.hid (HIT0.out.call hst1)
  have HSP0 := Lib.hid (spelt_star HG.out hl (by omega))
  clear hst1 HIT0 hc0 hl
  go_upto_region 4 with (at_builtin; refine wpList_append_lies _ rfl _ _ _ rfl w.heap.size 9 i0 (.string ⟨#[]⟩) 1 16 Tryz.underlying33 HI.out HZ.out HSZ.out HY.out rfl (by omega) (.slice none 0 0) 0 (strs []) rfl (HIT1.out.row.alloc _) ⟨w1.heap.size, 0, none⟩ 1 1 [.string (ba l)] rfl rfl (cell_one_new _ _ _) (by simp [Value.oneCell']) (by omega) (by simp only [maxLen]; omega) (by omega) (by have := HIT1.out.sty.2.1; simp; omega) (w1.heap.size + 1) (by simp) ?_; intro h cap' w2 hown hgrow hat hlt; have HIT2 := Lib.hid ((HIT1.out.below ((Below.refl _ _).alloc (Nat.le_refl _) _)).add hgrow hown); clear hown hgrow hat)
  have hc0 := HIT2.out.whole.cell0
  have HRW := Lib.hid (show w.heap.size < w2.heap.size from HIT2.out.whole.lt)
  go_wp2_with (first | (refine wpList_load_set rfl _ rfl w.heap.size true p rfl HIT2.out.whole ?_) | (refine wpList_store_set rfl _ _ rfl w2.heap.size true p rfl rfl false noSet (isSet_lit w2) ?_; generalize hX : World.setRow _ _ _ = wx; have HX := Lib.hid (HIT2.out.move (show Below w2.heap.size w2 wx by rw [← hX]; exact below_setRow ((Below.refl _ _).alloc (Nat.le_refl _) _) (Nat.le_refl _) _) (show IsSet wx w2.heap.size true p by rw [← hX]; exact (isSet_lit w2).store true p) (Nat.le_of_lt HIT2.out.whole.lt)); clear hX))
  refine (HL.out _).mono ?_
  rintro e wl ⟨rfl, hdl⟩
  have HITL := Lib.hid (HX.out.below hdl.below)
  clear hdl HX HIT2
  go_wp2_with fail
  generalize hR : w2.heap.size = R at *
  go_loopw [7, 9] (fun v7 v9 wr => ∃ (v U : Nat) (L : List (List UInt8)) (q : Nat → Bool), v9 = .int .i64 v ∧ loK k ≤ v ∧ v ≤ hiK k + 1 ∧ L.length ≤ 2 * v + 1 ∧ Hid (Spelt k true p q v U L) ∧ Hid (Items w0 w g R v7 L true p q wr)) (fun _ v9 _ => hiK k + 1 - (intOf v9).toNat)
  case atStart => exact ⟨loK k, _, [l], p, rfl, by omega, by omega, by simp, HSP0, HITL⟩
  case round =>
   obtain ⟨v, U, L, q, rfl, hv0, hv1, hlen, HSP, HIT⟩ := hrel
   clear HITL HSP0
   go_wp2_with fail
   refine (HH.out _).mono ?_
   rintro e w1 ⟨rfl, hd1⟩
   have HIT1 := Lib.hid (HIT.out.below hd1.below)
   clear hd1 HIT
   by_cases hvh : v ≤ hiK k
   ·have hd : decide ((v : Int) ≤ hiK k) = true := decide_eq_true (by omega)
    have hv63 : (v : Int) < 63 := by omega
    have hvp : (0 : Int) ≤ v := by omega
    have hc := HIT1.out.rest.cellAt v (by omega)
    rw [Nat.add_comm v 1] at hc
    have hc1 := HIT1.out.whole.cell0
    obtain ⟨b, hb⟩ : ∃ b, q v = b := ⟨_, rfl⟩
    have HQ := Lib.hid hb
    rw [hb] at hc
    clear hb
    cases b with
    | false =>
     go_wp2_with fail
     go_roundw
     case rel => exact ⟨v + 1, U, L, q, by go_num, by omega, by omega, by omega, Lib.hid (HSP.out.skip (.inl HQ.out)), HIT1⟩
     case measure => simp [intOf]; omega
    | true =>
     go_wp2_with fail
     refine (HP.out 4 (by omega) _ HIT1.out.sty.1).mono ?_
     rintro e w2 ⟨r2, hr2, rfl, hst2⟩
     have HIT2 := Lib.hid (HIT1.out.call hst2)
     clear hst2 HIT1
     by_cases h1 : r2 = 1
     ·subst h1
      go_wp2_with (refine wpList_load_set rfl _ rfl w.heap.size true p rfl HIT2.out.whole ?_)
      refine (HTX.out v hv0 hvh (HSP.out.rest v HQ.out) _ HIT2.out.sty.1).mono ?_
      rintro e w3 ⟨l, last, s, hl, hll, hvl, hlh2, hs1, hs12, hps, rfl, hst3⟩
      have HIT3 := Lib.hid (HIT2.out.call hst3)
      have HLT := Lib.hid hl
      have HPS := Lib.hid hps
      clear hl hps hst3 HIT2 hc hc1 hc0
      go_wp2_with fail
      go_loopw [13] (fun v13 wr => ∃ (n x : Nat) (q2 : Nat → Bool), v13 = .int .i64 x ∧ Hid (x = v + n * s) ∧ x ≤ last + s ∧ Hid (∀ j, q2 j = true → q j = true) ∧ Hid (∀ j, q j = true → q2 j = true ∨ ∃ t, j = v + t * s ∧ v + t * s ≤ last) ∧ Hid (Items w0 w g R u7 L true p q2 wr)) (fun v13 _ => last + 13 - (intOf v13).toNat)
      case atStart => exact ⟨0, v, q, rfl, Lib.hid (by omega), by omega, Lib.hid (fun _ h => h), Lib.hid (fun _ h => .inl h), HIT3⟩
      case round =>
       obtain ⟨n, x, q2, rfl, HX, hxl, HQ1, HQ2, HIT4⟩ := hrel
       clear HIT3
       by_cases hle : x ≤ last
       ·have hdx : decide ((x : Int) ≤ last) = true := decide_eq_true (by omega)
        have hx63 : (x : Int) < 63 := by omega
        have hx0 : (0 : Int) ≤ x := by omega
        have hcx := HIT4.out.rest.cellAt x (by omega)
        have hfx := HIT4.out.rest.free (x + 1)
        rw [Nat.add_comm x 1] at hcx hfx
        go_wp2_with fail
        go_roundw
        case rel => exact ⟨n + 1, x + s, fun i => if i = x then false else q2 i, by go_num, Lib.hid (by rw [HX.out, Nat.succ_mul]; omega), by omega, Lib.hid (sub_step HQ1.out), Lib.hid (gone_step HX.out hle HQ2.out), Lib.hid (by rw [Nat.add_comm 1 x]; exact HIT4.out.put HRW.out x (by omega) false)⟩
        case measure => simp [intOf]; omega
       ·have hdx : decide ((x : Int) ≤ last) = false := decide_eq_false (by omega)
        have HSP2 := Lib.hid (HSP.out.add HLT.out hlh2 hvl HPS.out hll HQ1.out HQ2.out)
        clear HX HQ1 HQ2
        go_wp2_with (at_builtin; refine wpList_append_lies _ rfl _ _ _ rfl w.heap.size 9 i0 (.string ⟨#[]⟩) 1 16 Tryz.underlying33 HI.out HZ.out HSZ.out HY.out rfl (by omega) u7 L.length (strs L) rfl (HIT4.out.row.alloc _) ⟨wr.heap.size, 0, none⟩ 1 1 [.string (ba l)] rfl rfl (cell_one_new _ _ _) (by simp [Value.oneCell']) (by omega) (by simp only [maxLen]; omega) (by omega) (by have := HIT4.out.sty.2.1; simp; omega) (wr.heap.size + 1) (by simp) ?_; intro h cap' w5 hown hgrow hat hlt; have HIT5 := Lib.hid ((HIT4.out.below ((Below.refl _ _).alloc (Nat.le_refl _) _)).add hgrow hown); clear hown hgrow hat)
        refine (HP.out 8 (by omega) _ HIT5.out.sty.1).mono ?_
        rintro e w6 ⟨r6, hr6, rfl, hst6⟩
        have HIT6 := Lib.hid (HIT5.out.call hst6)
        clear hst6 HIT5
        by_cases h1 : r6 = 1
        ·subst h1
         have HSP3 := Lib.hid (HSP2.out.twice HLT.out hll)
         have hln : (L ++ [l]).length = L.length + 1 := by simp
         go_wp2_with (at_builtin; refine wpList_append_lies _ rfl _ _ _ rfl w.heap.size 9 i0 (.string ⟨#[]⟩) 1 16 Tryz.underlying33 HI.out HZ.out HSZ.out HY.out rfl (by omega) _ (L ++ [l]).length (strs (L ++ [l])) rfl (HIT6.out.row.alloc _) ⟨w6.heap.size, 0, none⟩ 1 1 [.string (ba l)] rfl rfl (cell_one_new _ _ _) (by simp [Value.oneCell']) (by omega) (by simp only [maxLen]; omega) (by omega) (by have := HIT6.out.sty.2.1; simp; omega) (w6.heap.size + 1) (by simp) ?_; intro h cap' w7 hown hgrow hat hlt; have HIT7 := Lib.hid ((HIT6.out.below ((Below.refl _ _).alloc (Nat.le_refl _) _)).add hgrow hown); clear hown hgrow hat)
         rw [hln] at HIT7
         go_roundw
         case rel => exact ⟨v + 1, _, L ++ [l] ++ [l], q2, by go_num, by omega, by omega, by simp; omega, HSP3, HIT7⟩
         case measure => simp [intOf]; omega
        ·have hd1 := not_one h1
         go_wp2_with fail
         go_roundw
         case rel => exact ⟨v + 1, _, L ++ [l], q2, by go_num, by omega, by omega, by simp; omega, HSP2, HIT6⟩
         case measure => simp [intOf]; omega
     ·have hd1 := ne_one h1
      go_wp2_with fail
      go_roundw
      case rel => exact ⟨v + 1, U, L, q, by go_num, by omega, by omega, by omega, Lib.hid (HSP.out.skip (.inr rfl)), HIT2⟩
      case measure => simp [intOf]; omega
   ·have hd : decide ((v : Int) ≤ hiK k) = false := decide_eq_false (by omega)
    obtain rfl : v = hiK k + 1 := by omega
    obtain ⟨hall, hne⟩ := HSP.out.all HG.out (by omega)
    have hpos : 0 < L.length := List.length_pos_iff.2 hne
    obtain ⟨b, cap, rfl, hbw, -⟩ := HIT1.out.row.form hpos
    have HALL := Lib.hid (And.intro hall HSP.out.short)
    clear hall hne HSP HTX HST HG
    obtain ⟨m, hm⟩ : ∃ m, L.length = m := ⟨_, rfl⟩
    have HM := Lib.hid hm
    rw [hm] at HIT1 hpos hlen ⊢
    clear hm
    go_wp2_with fail
    go_loopw [79] (fun v79 wr => ∃ (i : Nat) (L2 : List (List UInt8)), v79 = .int .i64 i ∧ i ≤ m ∧ Hid (L2.Perm L) ∧ Hid (Items w0 w g R (.slice (some ⟨b, 0, none⟩) m cap) L2 true p q wr)) (fun v79 _ => m - (intOf v79).toNat)
    case atStart => exact ⟨0, L, rfl, by omega, Lib.hid (List.Perm.refl _), HIT1⟩
    case round =>
     obtain ⟨i, L2, rfl, him, HPM, HIT2⟩ := hrel
     clear HIT1 hc0
     have hl2 : L2.length = m := HPM.out.length_eq.trans HM.out
     by_cases hi : i < m
     ·have hdi : decide ((i : Int) < m) = true := decide_eq_true (by omega)
      have hi130 : (i : Int) < 130 := by omega
      have hi0 : (0 : Int) ≤ i := by omega
      go_wp2_with fail
      rw [show (i : Int) + 1 = ((i + 1 : Nat) : Int) by push_cast; rfl]
      refine (HP.out (i + 1) (by omega) _ HIT2.out.sty.1).mono ?_
      rintro e w2 ⟨j, hj, rfl, hst2⟩
      have HIT3 := Lib.hid (HIT2.out.call hst2)
      clear hst2 HIT2
      go_wp2_with fail
      refine (HP.out 2 (by omega) _ HIT3.out.sty.1).mono ?_
      rintro e w3 ⟨r3, hr3, rfl, hst3⟩
      have HIT4 := Lib.hid (HIT3.out.call hst3)
      clear hst3 HIT3
      by_cases h1 : r3 = 1
      ·subst h1
       have hji : j < m := by omega
       have hil : (i : Int) < m := by omega
       have hjl : (j : Int) < m := by omega
       have hj0 : (0 : Int) ≤ j := by omega
       have hci := HIT4.out.cell hl2.symm i (by omega)
       have hcj := HIT4.out.cell hl2.symm j (by omega)
       have hfi : w3.frozen? ⟨b, i, none⟩ = false := HIT4.out.froz hl2 i
       have hcj2 : ∀ u, (w3.setCell ⟨b, i, none⟩ u).cell? ⟨b, j, none⟩ = some (if i = j then u else .string (ba (L2[j]'(by omega)))) := fun u => (HIT4.out.cell2 hl2 i j (by omega) u).1
       have hfj2 : ∀ u, (w3.setCell ⟨b, i, none⟩ u).frozen? ⟨b, j, none⟩ = false := fun u => (HIT4.out.cell2 hl2 i j (by omega) u).2
       have HCI := Lib.hid hci
       have HCJ := Lib.hid hcj
       obtain ⟨xi, hxi⟩ : ∃ xi, xi = L2[i]'(by omega) := ⟨_, rfl⟩
       obtain ⟨xj, hxj⟩ : ∃ xj, xj = L2[j]'(by omega) := ⟨_, rfl⟩
       have HXI := Lib.hid hxi
       have HXJ := Lib.hid hxj
       rw [← hxi] at hci
       rw [← hxj] at hcj hcj2
       clear hxi hxj HCI HCJ
       go_upto_region 22 with fail
       refine start_ (n := 16) (S := fun w' => w'.cell? ⟨b, i, none⟩ = some (.string (ba xi)) ∧ w'.cell? ⟨b, j, none⟩ = some (.string (ba xj))) (ds := [13, 15]) #[false, false, false, false, false, false, false, false, false, false, false, false, false, false, false, false] (by kernel_rfl) rfl rfl ⟨hci, hcj⟩ (fun hHeld => ?_)
       refine pure_ (i := 0) (N := some 89) (v := ?_) (a' := ?_) #[true, false, false, false, false, false, false, false, false, false, false, false, false, false, false, false] rfl rfl (by kernel_rfl) (fun _ _ _ h => h) (Or.inl ⟨by rfl, ?_⟩) ?_ ?_
       rotate_left
       ·intro w'
        go_simp
        with_reducible rfl
       rotate_left
       ·simp only [Act.put, List.setIfInBounds_toArray, List.set_cons_zero, List.set_cons_succ, i64_w, i32_w]
        rfl
       refine pure_ (i := 1) (N := some 90) (v := ?_) (a' := ?_) #[true, true, false, false, false, false, false, false, false, false, false, false, false, false, false, false] rfl rfl (by kernel_rfl) (fun _ _ _ h => h) (Or.inl ⟨by rfl, ?_⟩) ?_ ?_
       rotate_left
       ·intro w'
        go_simp
        with_reducible rfl
       rotate_left
       ·simp only [Act.put, List.setIfInBounds_toArray, List.set_cons_zero, List.set_cons_succ, i64_w, i32_w]
        rfl
       refine pure_ (i := 2) (N := some 91) (v := ?_) (a' := ?_) #[true, true, true, false, false, false, false, false, false, false, false, false, false, false, false, false] rfl rfl (by kernel_rfl) (fun _ _ _ h => h) (Or.inl ⟨by rfl, ?_⟩) ?_ ?_
       rotate_left
       ·intro w'
        go_simp
        with_reducible rfl
       rotate_left
       ·simp only [Act.put, List.setIfInBounds_toArray, List.set_cons_zero, List.set_cons_succ, i64_w, i32_w]
        rfl
       refine pure_ (i := 3) (N := some 92) (v := ?_) (a' := ?_) #[true, true, true, true, false, false, false, false, false, false, false, false, false, false, false, false] rfl rfl (by kernel_rfl) (fun _ _ _ h => h) (Or.inl ⟨by rfl, ?_⟩) ?_ ?_
       rotate_left
       ·intro w'
        go_simp
        with_reducible rfl
       rotate_left
       ·simp only [Act.put, List.setIfInBounds_toArray, List.set_cons_zero, List.set_cons_succ, i64_w, i32_w]
        rfl
       refine pure_ (i := 4) (N := some 93) (v := ?_) (a' := ?_) #[true, true, true, true, true, false, false, false, false, false, false, false, false, false, false, false] rfl rfl (by kernel_rfl) (fun _ _ _ h => h) (Or.inl ⟨by rfl, ?_⟩) ?_ ?_
       rotate_left
       ·intro w'
        go_simp
        with_reducible rfl
       rotate_left
       ·simp only [Act.put, List.setIfInBounds_toArray, List.set_cons_zero, List.set_cons_succ, i64_w, i32_w]
        rfl
       refine pure_ (i := 5) (N := some 94) (v := ?_) (a' := ?_) #[true, true, true, true, true, true, false, false, false, false, false, false, false, false, false, false] rfl rfl (by kernel_rfl) (fun _ _ _ h => h) (Or.inl ⟨by rfl, ?_⟩) ?_ ?_
       rotate_left
       ·intro w'
        go_simp
        with_reducible rfl
       rotate_left
       ·simp only [Act.put, List.setIfInBounds_toArray, List.set_cons_zero, List.set_cons_succ, i64_w, i32_w]
        rfl
       refine pure_ (i := 6) (N := some 95) (v := ?_) (a' := ?_) #[true, true, true, true, true, true, true, false, false, false, false, false, false, false, false, false] rfl rfl (by kernel_rfl) (fun _ _ _ h => h) (Or.inl ⟨by rfl, ?_⟩) ?_ ?_
       rotate_left
       ·intro w'
        go_simp
        with_reducible rfl
       rotate_left
       ·simp only [Act.put, List.setIfInBounds_toArray, List.set_cons_zero, List.set_cons_succ, i64_w, i32_w]
        rfl
       refine pure_ (i := 8) (N := some 97) (v := ?_) (a' := ?_) #[true, true, true, true, true, true, true, false, true, false, false, false, false, false, false, false] rfl rfl (by kernel_rfl) (fun _ _ _ h => h) (Or.inl ⟨by rfl, ?_⟩) ?_ ?_
       rotate_left
       ·intro w'
        go_simp
        with_reducible rfl
       rotate_left
       ·simp only [Act.put, List.setIfInBounds_toArray, List.set_cons_zero, List.set_cons_succ, i64_w, i32_w]
        rfl
       refine pure_ (i := 9) (N := some 98) (v := ?_) (a' := ?_) #[true, true, true, true, true, true, true, false, true, true, false, false, false, false, false, false] rfl rfl (by kernel_rfl) (fun _ _ _ h => h) (Or.inl ⟨by rfl, ?_⟩) ?_ ?_
       rotate_left
       ·intro w'
        go_simp
        with_reducible rfl
       rotate_left
       ·simp only [Act.put, List.setIfInBounds_toArray, List.set_cons_zero, List.set_cons_succ, i64_w, i32_w]
        rfl
       refine pure_ (i := 10) (N := some 99) (v := ?_) (a' := ?_) #[true, true, true, true, true, true, true, false, true, true, true, false, false, false, false, false] rfl rfl (by kernel_rfl) (fun _ _ _ h => h) (Or.inl ⟨by rfl, ?_⟩) ?_ ?_
       rotate_left
       ·intro w'
        go_simp
        with_reducible rfl
       rotate_left
       ·simp only [Act.put, List.setIfInBounds_toArray, List.set_cons_zero, List.set_cons_succ, i64_w, i32_w]
        rfl
       refine take_ (i := 7) (N := some 96) (v := ?_) (a' := ?_) #[true, true, true, true, true, true, true, true, true, true, true, false, false, false, false, false] rfl rfl (by kernel_rfl) (fun _ _ _ h => h) (Or.inl ⟨by rfl, ?_⟩) hHeld ?_ ?_
       rotate_left
       ·rintro w' ⟨s0, s1⟩
        go_simp
        with_reducible rfl
       rotate_left
       ·simp only [Act.put, List.setIfInBounds_toArray, List.set_cons_zero, List.set_cons_succ, i64_w, i32_w]
        rfl
       refine take_ (i := 11) (N := some 100) (v := ?_) (a' := ?_) #[true, true, true, true, true, true, true, true, true, true, true, true, false, false, false, false] rfl rfl (by kernel_rfl) (fun _ _ _ h => h) (Or.inl ⟨by rfl, ?_⟩) hHeld ?_ ?_
       rotate_left
       ·rintro w' ⟨s0, s1⟩
        go_simp
        with_reducible rfl
       rotate_left
       ·simp only [Act.put, List.setIfInBounds_toArray, List.set_cons_zero, List.set_cons_succ, i64_w, i32_w]
        rfl
       refine pure_ (i := 12) (N := some 101) (v := ?_) (a' := ?_) #[true, true, true, true, true, true, true, true, true, true, true, true, true, false, false, false] rfl rfl (by kernel_rfl) (fun _ _ _ h => h) (Or.inl ⟨by rfl, ?_⟩) ?_ ?_
       rotate_left
       ·intro w'
        go_simp
        with_reducible rfl
       rotate_left
       ·simp only [Act.put, List.setIfInBounds_toArray, List.set_cons_zero, List.set_cons_succ, i64_w, i32_w]
        rfl
       refine last_ (i := 13) (N := none) #[true, true, true, true, true, true, true, true, true, true, true, true, true, true, false, false] rfl rfl (by kernel_rfl) (by decide) (fun K hK => ?_)
       refine skip_ (w1 := ?_) (by rfl) rfl ?_ ?_
       rotate_left
       ·go_simp
        rfl
       refine hK.out _ _ ?_
       clear hK K
       refine pure_ (i := 14) (N := some 102) (v := ?_) (a' := ?_) #[true, true, true, true, true, true, true, true, true, true, true, true, true, true, true, false] rfl rfl (by kernel_rfl) (fun _ _ _ h => h) (Or.inl ⟨by rfl, ?_⟩) ?_ ?_
       rotate_left
       ·intro w'
        go_simp
        with_reducible rfl
       rotate_left
       ·simp only [Act.put, List.setIfInBounds_toArray, List.set_cons_zero, List.set_cons_succ, i64_w, i32_w]
        rfl
       refine last_ (i := 15) (N := none) #[true, true, true, true, true, true, true, true, true, true, true, true, true, true, true, true] rfl rfl (by kernel_rfl) (by decide) (fun K hK => ?_)
       refine skip_ (w1 := ?_) (by rfl) rfl ?_ ?_
       rotate_left
       ·go_simp
        rfl
       refine hK.out _ _ ?_
       clear hK K
       refine done_ (by kernel_rfl) ?_
       clear hci hcj hcj2 hfi hfj2 hHeld
       go_wp2_with fail
       have HNEW := Lib.hid ((HIT4.out.swap2 hl2 i j xj xi).drew)
       go_roundw
       case rel => exact ⟨i + 1, (L2.set i xj).set j xi, by go_num, by omega, Lib.hid (by rw [HXJ.out, HXI.out]; exact (swap_perm L2 i j (by omega) (by omega)).trans HPM.out), HNEW⟩
       case measure => simp [intOf]; omega
      ·have hd1 := not_one h1
       go_wp2_with fail
       go_roundw
       case rel => exact ⟨i + 1, L2, by go_num, by omega, HPM, HIT4⟩
       case measure => simp [intOf]; omega
     ·have hdi : decide ((i : Int) < m) = false := decide_eq_false (by omega)
      go_wp2_with fail
      go_ret
      obtain ⟨hall, hsh⟩ := HALL.out
      have hp2 := HPM.out
      have hr2 := HIT2.out.row
      subst hl2
      exact ⟨b, cap, L2, rfl, hall.perm hp2.symm, (by rintro rfl; simp at hpos), fun x hx => hsh x (hp2.mem_iff.1 hx), by omega, hr2, HIT2.out.sty⟩
end Go.Proofs.YtmecbmgfacpecaaGreatDoor.Cron
namespace Go.Proofs.YtmecbmgfacpecaaGreatDoor.Cron
open Go Go.RowKit Go.Proofs.YtmecbmgfacpecaaGreatDoor.Text Go.Proofs.YtmecbmgfacpecaaGreatDoor.Bits
set_option linter.unusedVariables false
def ErrAt (w w' : World) (g : Nat) (v : Value) : Prop := ∃ w1, Below w.heap.size w w1 ∧ w' = w1.setCell ⟨g, 0, none⟩ v
def ClosureAnswer (w : World) (g : Nat) (r : Option Nat) (e : Ending) (w' : World) : Prop :=
 match r with
 | some b => e = .returned (.int .u64 b) ∧ ErrAt w w' g .nilIface
 | none => ∃ (n : Int) (t : TypeId) (x : Value), e = .returned (.int .u64 n) ∧ ErrAt w w' g (.iface t x)
set_option maxRecDepth 100000 in
theorem closure_any (m : Option Nat) (val : List UInt8 → Option Nat) (Inv : World → Prop) (hR : Reads m val Inv) (lo hi : Nat) (s : ByteArray) (hs : s.size ≤ 4294967296) (h1 : lo ≤ hi) (h2 : hi ≤ 62) (g : Nat) (w : World) (hI : Inv w)
  (hg : g < w.heap.size) (hc : w.cell? ⟨g, 0, none⟩ = some .nilIface) (hf : w.frozen? ⟨g, 0, none⟩ = false) :
  Calls Tryz.prog 104 #[.string s, .agg #[.int .u64 lo, .int .u64 hi, .map m], .pointer (some ⟨g, 0, none⟩)] w (ClosureAnswer w g (fieldS val lo hi s.data.toList)) := by
 have hB0 : ∀ o, Below w.heap.size w (w.alloc o) := fun o => (Below.refl _ _).alloc (Nat.le_refl _) o
 have HC := Lib.hid (fun o => getFieldA m val Inv hR lo hi s hs h1 h2 (w.alloc o) (hR.keeps hI (hB0 o)))
 generalize fieldS val lo hi s.data.toList = r at *
 go_enter Tryz.func104, Tryz.ntmps104
 go_wp2_with fail
 refine (HC.out _).mono ?_
 cases r with
 | some b =>
  rintro e w2 ⟨rfl, hb2⟩
  have hB : Below w.heap.size w w2 := ((Below.refl _ _).alloc (Nat.le_refl _) _).trans (hb2.mono (by simp))
  have hc2 := (hB.cell (p := ⟨g, 0, none⟩) hg).trans hc
  have hf2 := (hB.frozen (p := ⟨g, 0, none⟩) hg).trans hf
  go_wp2_with fail
  go_ret
  exact ⟨rfl, w2, hB, rfl⟩
 | none =>
  rintro e w2 ⟨⟨n, t, x, rfl⟩, hb2⟩
  have hB : Below w.heap.size w w2 := ((Below.refl _ _).alloc (Nat.le_refl _) _).trans (hb2.mono (by simp))
  have hc2 := (hB.cell (p := ⟨g, 0, none⟩) hg).trans hc
  have hf2 := (hB.frozen (p := ⟨g, 0, none⟩) hg).trans hf
  go_wp2_with fail
  go_ret
  exact ⟨n, t, x, rfl, w2, hB, rfl⟩
end Go.Proofs.YtmecbmgfacpecaaGreatDoor.Cron
namespace Go.Proofs.YtmecbmgfacpecaaGreatDoor.Cron
open Go Go.RowKit Go.Proofs.YtmecbmgfacpecaaGreatDoor.Text Go.Proofs.YtmecbmgfacpecaaGreatDoor.Bits Go.Proofs.YtmecbmgfacpecaaGreatDoorW.PrintWords Go.Proofs.YtmecbmgfacpecaaGreatDoorW.PrintLast Go.Proofs.YtmecbmgfacpecaaGreatDoorW.PrintMore Go.Proofs.YtmecbmgfacpecaaGreatDoor.Pr
set_option linter.unusedVariables false
theorem wrap_i64_nat {n : Nat} (h : n < 9223372036854775808) : IntKind.i64.wrap (n : Int) = (n : Int) := by
 rw [IntKind.wrap_i64]
 omega
theorem and_i64 {a b : Nat} (ha : a < 9223372036854775808) (hb : b < 9223372036854775808) : bits .and .i64 (a : Int) (b : Int) = ((a &&& b : Nat) : Int) := by
 have ha' : a % 2 ^ 64 = a := Nat.mod_eq_of_lt (by omega)
 have hb' : b % 2 ^ 64 = b := Nat.mod_eq_of_lt (by omega)
 have e : IntKind.i64.bits = 64 := rfl
 unfold bits
 rw [e]
 show IntKind.i64.wrap ((BitVec.ofInt 64 (a : Int) &&& BitVec.ofInt 64 (b : Int)).toNat : Int) = _
 rw [BitVec.ofInt_natCast, BitVec.ofInt_natCast, BitVec.toNat_and, BitVec.toNat_ofNat, BitVec.toNat_ofNat, ha', hb']
 exact wrap_i64_nat (Nat.lt_of_le_of_lt Nat.and_le_left ha)
theorem or_i64 {a b : Nat} (ha : a < 4611686018427387904) (hb : b < 4611686018427387904) : bits .or .i64 (a : Int) (b : Int) = ((a ||| b : Nat) : Int) := by
 have ha' : a % 2 ^ 64 = a := Nat.mod_eq_of_lt (by omega)
 have hb' : b % 2 ^ 64 = b := Nat.mod_eq_of_lt (by omega)
 have e : IntKind.i64.bits = 64 := rfl
 unfold bits
 rw [e]
 show IntKind.i64.wrap ((BitVec.ofInt 64 (a : Int) ||| BitVec.ofInt 64 (b : Int)).toNat : Int) = _
 rw [BitVec.ofInt_natCast, BitVec.ofInt_natCast, BitVec.toNat_or, BitVec.toNat_ofNat, BitVec.toNat_ofNat, ha', hb']
 exact wrap_i64_nat (Nat.lt_of_lt_of_le (Nat.or_lt_two_pow (n := 62) ha hb) (by decide))
def placesL : List Nat := [1, 4, 8, 16, 32, 64]
def defaultsL : List ByteArray := [⟨#[48]⟩, ⟨#[48]⟩, ⟨#[48]⟩, ⟨#[42]⟩, ⟨#[42]⟩, ⟨#[42]⟩]
def optS (o : Nat) : Nat := if 0 < o &&& 2 then o ||| 1 else o
def optD (o : Nat) : Nat := if 0 < o &&& 128 then o ||| 64 else o
def optAll (o : Nat) : Nat := optD (optS o)
def nOpt (o : Nat) : Nat := (if 0 < o &&& 2 then 1 else 0) + (if 0 < optS o &&& 128 then 1 else 0)
def takenN (o : Nat) (ps : List Nat) : Nat := (ps.filter fun p => decide (0 < o &&& p)).length
def fillL (o : Nat) : List Nat → List ByteArray → List ByteArray → List ByteArray
 | p :: ps, d :: ds, fs => if 0 < o &&& p then (match fs with | f :: fs => f :: fillL o ps ds fs | [] => d :: fillL o ps ds []) else d :: fillL o ps ds fs
 | _, _, _ => []
def normF (fs : List ByteArray) (o : Nat) : Option (List ByteArray) :=
 if 1 < nOpt o then none
 else if fs.length < takenN (optAll o) placesL - nOpt o ∨ takenN (optAll o) placesL < fs.length then none
 else some (fillL (optAll o) placesL defaultsL
  (if 0 < nOpt o ∧ fs.length = takenN (optAll o) placesL - nOpt o then (if 0 < optAll o &&& 128 then fs ++ [⟨#[42]⟩] else ⟨#[48]⟩ :: fs) else fs))
structure Ints (w : World) (g n cap : Nat) (l : List Nat) : Prop where
 len : n = l.length
 lt : g < w.heap.size
 at_ : ∀ (i : Nat) x, l[i]? = some x → w.cell? ⟨g, i, none⟩ = some (.int .i64 (x : Nat))
theorem Ints.below {w w' : World} {g n cap : Nat} {l : List Nat} (h : Ints w g n cap l) (hb : Below w.heap.size w w') : Ints w' g n cap l :=
 ⟨h.len, Nat.lt_of_lt_of_le h.lt hb.size, fun i x hx => (hb.cell (p := ⟨g, i, none⟩) h.lt).trans (h.at_ i x hx)⟩
theorem defaults_any (w : World) : Calls Tryz.prog 149 #[] w fun e w' => ∃ g c, e = .returned (.slice (some ⟨g, 0, none⟩) 6 c) ∧ w.heap.size ≤ g ∧ Texts w' g 6 c defaultsL ∧ Below w.heap.size w w' := by
 refine (cron_defaults.calls _ w rfl).mono ?_
 rintro e w' ⟨v, rfl, hR, hb⟩
 obtain ⟨g, n, cap, rfl, hg, ht⟩ := texts_of_R hR (by simp)
 have hn : n = 6 := ht.len
 subst hn
 exact ⟨g, cap, rfl, hg, ht, hb⟩
theorem places_any (w : World) : Calls Tryz.prog 148 #[] w fun e w' => ∃ g c, e = .returned (.slice (some ⟨g, 0, none⟩) 6 c) ∧ w.heap.size ≤ g ∧ Ints w' g 6 c placesL ∧ Below w.heap.size w w' := by
 refine (cron_places.calls _ w rfl).mono ?_
 rintro e w' ⟨v, rfl, hR, hb⟩
 have ho := Kd.own_of_R hR
 obtain ⟨_, h1 | ⟨g, cap, cur, rfl, hg, hc, hn, hm, hs, ht⟩⟩ := ho
 ·exact absurd (List.length_eq_zero_iff.1 h1.2) (by simp)
 ·refine ⟨g, cap, rfl, hg, ⟨rfl, (Array.getElem?_eq_some_iff.1 hc).1, fun i x hx => ?_⟩, hb⟩
  have hi : i < 6 := (List.getElem?_eq_some_iff.1 hx).1
  have := (Kd.R_cell (0 : Int) hR (i : Int) (by omega) (by simp; omega)).1
  rw [Int.toNat_natCast] at this
  rw [this]
  match i, hi, hx with
  | 0, _, hx => cases hx; rfl
  | 1, _, hx => cases hx; rfl
  | 2, _, hx => cases hx; rfl
  | 3, _, hx => cases hx; rfl
  | 4, _, hx => cases hx; rfl
  | 5, _, hx => cases hx; rfl
end Go.Proofs.YtmecbmgfacpecaaGreatDoor.Cron
namespace Go.Proofs.YtmecbmgfacpecaaGreatDoor.Cron
open Go Go.RowKit
set_option linter.unusedVariables false
theorem takenN_cons (q p : Nat) (ps : List Nat) : takenN q (p :: ps) = (if 0 < q &&& p then 1 else 0) + takenN q ps := by
 unfold takenN
 by_cases h : 0 < q &&& p
 ·rw [List.filter_cons_of_pos (by simpa using h), if_pos h, List.length_cons, Nat.add_comm]
 ·rw [List.filter_cons_of_neg (by simpa using h), if_neg h, Nat.zero_add]
theorem fill_length (q : Nat) : ∀ (ps : List Nat) (ds fs : List ByteArray), ps.length = ds.length → (fillL q ps ds fs).length = ps.length
 | [], [], _, _ => rfl
 | p :: ps, d :: ds, fs, h => by
  have h' : ps.length = ds.length := by simpa using h
  unfold fillL
  by_cases hp : 0 < q &&& p
  ·rw [if_pos hp]
   cases fs with
   | nil => simp [fill_length q ps ds [] h']
   | cons f fs => simp [fill_length q ps ds fs h']
  ·rw [if_neg hp]
   simp [fill_length q ps ds fs h']
theorem fill_at (q : Nat) : ∀ (ps : List Nat) (ds fs : List ByteArray) (i : Nat) (h : i < ps.length), ps.length = ds.length → takenN q ps ≤ fs.length →
  (fillL q ps ds fs)[i]? = if 0 < q &&& ps[i] then fs[takenN q (ps.take i)]? else ds[i]?
 | p :: ps, d :: ds, fs, i, h, hl, ht => by
  have hl' : ps.length = ds.length := by simpa using hl
  rw [takenN_cons] at ht
  unfold fillL
  by_cases hp : 0 < q &&& p
  ·rw [if_pos hp] at ht ⊢
   cases fs with
   | nil => simp at ht
   | cons f fs =>
    cases i with
    | zero => simp [hp, takenN]
    | succ i =>
     have hi : i < ps.length := by simpa using h
     have ih := fill_at q ps ds fs i hi hl' (by simp at ht; omega)
     simp only [List.getElem?_cons_succ, List.getElem_cons_succ, List.take_succ_cons, takenN_cons, if_pos hp]
     rw [ih, Nat.add_comm 1, List.getElem?_cons_succ]
  ·rw [if_neg hp] at ht ⊢
   cases i with
   | zero => simp [hp]
   | succ i =>
    have hi : i < ps.length := by simpa using h
    have ih := fill_at q ps ds fs i hi hl' (by omega)
    simp only [List.getElem?_cons_succ, List.getElem_cons_succ, List.take_succ_cons, takenN_cons, if_neg hp, Nat.zero_add]
    exact ih
def fillRow (F ds : List ByteArray) (i : Nat) : List ByteArray := F.take i ++ ds.drop i
theorem fillRow_same {F ds : List ByteArray} {i : Nat} {x : ByteArray} (hF : F[i]? = some x) (hd : ds[i]? = some x) : fillRow F ds (i + 1) = fillRow F ds i := by
 unfold fillRow
 obtain ⟨h1, h2⟩ := List.getElem?_eq_some_iff.1 hd
 rw [List.take_add_one, hF, List.drop_eq_getElem_cons h1, h2]
 simp
theorem fillRow_set {F ds : List ByteArray} {i : Nat} {x : ByteArray} (hF : F[i]? = some x) (hd : i < ds.length) : (fillRow F ds i).set i x = fillRow F ds (i + 1) := by
 unfold fillRow
 have hl : i < F.length := (List.getElem?_eq_some_iff.1 hF).1
 rw [List.take_add_one, hF, List.drop_eq_getElem_cons hd]
 have ht : (F.take i).length = i := by rw [List.length_take]; omega
 rw [List.set_append_right _ _ (by omega), ht, Nat.sub_self, List.set_cons_zero, Option.toList_some, List.append_assoc, List.singleton_append]
theorem fillRow_zero (F ds : List ByteArray) : fillRow F ds 0 = ds := by simp [fillRow]
theorem fillRow_end {F ds : List ByteArray} {i : Nat} (h1 : F.length ≤ i) (h2 : ds.length ≤ i) : fillRow F ds i = F := by
 unfold fillRow
 rw [List.take_of_length_le h1, List.drop_eq_nil_of_le h2, List.append_nil]
end Go.Proofs.YtmecbmgfacpecaaGreatDoor.Cron
namespace Go.Proofs.YtmecbmgfacpecaaGreatDoor.Cron
open Go Go.RowKit Go.Lib Go.Proofs.YtmecbmgfacpecaaGreatDoorW.PrintWords Go.Proofs.YtmecbmgfacpecaaGreatDoorW.PrintLast Go.Proofs.YtmecbmgfacpecaaGreatDoorW.PrintMore Go.Proofs.YtmecbmgfacpecaaGreatDoor.Pr
set_option linter.unusedVariables false
def spaceZ (r : Nat) : Bool :=
 decide (r = 9 ∨ r = 10 ∨ r = 11 ∨ r = 12 ∨ r = 13 ∨ r = 32 ∨ r = 133 ∨ r = 160 ∨ r = 5760 ∨ r = 8232 ∨ r = 8233 ∨ r = 8239 ∨ r = 8287 ∨ r = 12288 ∨ (8192 ≤ r ∧ r ≤ 8202))
theorem space_f (r : Nat) : cron_zzSpace.f (r : Int) = some (spaceZ r) := by
 unfold cron_zzSpace.f
 by_cases h : r = 9 ∨ r = 10 ∨ r = 11 ∨ r = 12 ∨ r = 13 ∨ r = 32 ∨ r = 133 ∨ r = 160 ∨ r = 5760 ∨ r = 8232 ∨ r = 8233 ∨ r = 8239 ∨ r = 8287 ∨ r = 12288
 ·have e : spaceZ r = true := by
   unfold spaceZ
   apply decide_eq_true
   omega
  rw [e]
  rcases h with rfl | rfl | rfl | rfl | rfl | rfl | rfl | rfl | rfl | rfl | rfl | rfl | rfl | rfl <;> rfl
 ·repeat rw [if_neg (by omega)]
  by_cases h2 : 8192 ≤ r
  ·rw [if_pos (by omega)]
   congr 1
   unfold spaceZ
   rw [Bool.eq_iff_iff]
   simp only [decide_eq_true_eq]
   omega
  ·rw [if_neg (by omega)]
   congr 1
   unfold spaceZ
   symm
   apply decide_eq_false
   omega
theorem space_any (r : Nat) (w : World) : Calls Tryz.prog 144 #[.int .i32 r] w fun e w' => e = .returned (.bool (spaceZ r)) ∧ ∃ n, w' = w.drewN n := by
 refine (cron_zzSpace.calls r (spaceZ r) w (space_f r)).mono fun e w' ⟨he, hw⟩ => ⟨he, hw.out⟩
def fieldsZ (s : ByteArray) : List ByteArray := Lib.goFieldsP spaceZ s
theorem info_string : (Tryz.prog.info? 9).map (fun i => (i.zero, i.size, i.bytes)) = some (some (.string ⟨#[]⟩), 1, 16) := by kernel_rfl
def spanS (s : ByteArray) (x : Nat × Nat) : Value := .string (s.extract x.1 x.2)
set_option maxRecDepth 100000 in
set_option maxHeartbeats 4000000 in
theorem zzFields_any (s : ByteArray) (hs : s.size ≤ 4294967296) (w : World) :
  Calls Tryz.prog 102 #[.string s] w fun e w' => ∃ v, e = .returned v ∧ w'.ownsRow w.heap.size 9 1 v (fieldsZ s).length ((fieldsZ s).map Value.string) ∧ Below w.heap.size w w' := by
 have hGF : (fieldsZ s).map Value.string = (Lib.spansOfP spaceZ s).map (spanS s) := by
  unfold fieldsZ Lib.goFieldsP
  rw [List.map_map]
  rfl
 have hGL : (fieldsZ s).length = (Lib.spansOfP spaceZ s).length := by
  unfold fieldsZ Lib.goFieldsP
  rw [List.length_map]
 rw [hGF, hGL]
 clear hGF hGL
 obtain ⟨i0, hi, hz0, hz1, hz2⟩ := info_parts info_string
 go_enter Tryz.func102, Tryz.ntmps102
 go_wp2
 go_loopg [3, 4] s.size (fun gf s3 s4 wx => ∃ (pos : Nat) (st : Option Nat) (acc : List (Nat × Nat)) (z : Int), s4 = .int .i64 z ∧ (st = none → z < 0) ∧ (∀ a, st = some a → z = (a : Int)) ∧ -9223372036854775808 ≤ z ∧
   wx.ownsRow w.heap.size 9 1 s3 acc.length (acc.map (spanS s)) ∧ wx.heap[w.heap.size]? = some (.stringIter s pos) ∧ Below w.heap.size w wx ∧
   Hid (Lib.spansFromP spaceZ s gf pos st acc = Lib.spansFromP spaceZ s s.size 0 none []) ∧ s.size ≤ pos + gf ∧ pos ≤ s.size ∧ acc.length ≤ pos ∧ (∀ a, st = some a → a < pos))
 case atStart =>
  exact ⟨0, none, [], -1, rfl, fun _ => by omega, (fun a h => by cases h), by omega, World.ownsRow_nil _ _ _ _, World.iter_heap w s 0, (Below.refl _ _).alloc (Nat.le_refl _) _, Lib.hid rfl, by omega, Nat.zero_le _, Nat.le_refl _, (fun a h => by cases h)⟩
 case round =>
  obtain ⟨pos, st, acc, z, rfl, hzn, hzs, hzl, hown, hit, hbw, HG, hfu, hps, hal, hst⟩ := hrel
  by_cases hlt : pos < s.size
  ·obtain ⟨g', rfl⟩ : ∃ g', gk = g' + 1 := ⟨gk - 1, by omega⟩
   have hnx : ∀ ty, (Instr.next (.pointer (some ⟨w.heap.size, 0, none⟩)) true ty).run Tryz.prog wr = _ := fun ty => Lib.run_next_any_at wr w.heap.size s pos ty hit hlt
   have hwd := Lib.width_pos s pos
   have hwn : pos + (Utf8.decode s pos).2 ≤ s.size := by
    have := Lib.decodeN_le_n' (s.size - pos) (s.get! pos).toNat (s.get! (pos + 1)).toNat (s.get! (pos + 2)).toNat (s.get! (pos + 3)).toNat (by omega)
    rw [← Lib.decode_at] at this
    omega
   have hrl := Lib.rune_le s pos
   have hG := HG.out
   simp only [Lib.spansFromP, hlt, if_true] at hG
   generalize (Utf8.decode s pos).1 = R at *
   generalize (Utf8.decode s pos).2 = K at *
   have hit2 := Lib.iterAt_heap wr w.heap.size s pos (pos + K) hit
   have hbw2 := Lib.below_iterAt hbw (k := w.heap.size) (Nat.le_refl _) s (pos + K)
   have hown2 := own_iterAt hown hit (pos + K)
   obtain ⟨W, hWd⟩ : ∃ W, wr.iterAt w.heap.size s (pos + K) = W := ⟨_, rfl⟩
   rw [hWd] at hnx hit2 hbw2 hown2
   have HS := Lib.hid (space_any R W)
   cases hsp : spaceZ R
   ·rw [hsp] at hG HS
    simp only [Bool.false_eq_true, if_false] at hG
    have HG2 := Lib.hid hG
    clear hown hit hbw HG hG
    cases st with
    | none =>
     have hz0' : z < 0 := hzn rfl
     go_wp2_with (go_at_call 144; go_must (refine (HS.out).mono ?_); rintro e W' ⟨rfl, q, rfl⟩)
     go_roundg g'
     case measure => omega
     case rel => exact ⟨pos + K, some pos, acc, pos, rfl, (fun h => by cases h), fun a h => by cases h; rfl, by omega, own_drewN hown2 q, hit2, pw_below_drewN hbw2 q, HG2, by omega, hwn, by omega, fun a h => by cases h; omega⟩
    | some a =>
     have hza : z = (a : Int) := hzs a rfl
     subst hza
     go_wp2_with (go_at_call 144; go_must (refine (HS.out).mono ?_); rintro e W' ⟨rfl, q, rfl⟩)
     go_roundg g'
     case measure => omega
     case rel => exact ⟨pos + K, some a, acc, a, rfl, (fun h => by cases h), fun b h => by cases h; rfl, by omega, own_drewN hown2 q, hit2, pw_below_drewN hbw2 q, HG2, by omega, hwn, by omega, fun b h => by cases h; have := hst a rfl; omega⟩
   ·rw [hsp] at hG HS
    simp only [if_true] at hG
    have HG2 := Lib.hid hG
    clear hown hit hbw HG hG
    cases st with
    | none =>
     have hz0' : z < 0 := hzn rfl
     go_wp2_with (go_at_call 144; go_must (refine (HS.out).mono ?_); rintro e W' ⟨rfl, q, rfl⟩)
     go_roundg g'
     case measure => omega
     case rel => exact ⟨pos + K, none, acc, z, rfl, fun _ => hz0', (fun a h => by cases h), hzl, own_drewN hown2 q, hit2, pw_below_drewN hbw2 q, HG2, by omega, hwn, by omega, (fun a h => by cases h)⟩
    | some a =>
     have hza : z = (a : Int) := hzs a rfl
     subst hza
     have hapos := hst a rfl
     have hz : w.heap.size < W.heap.size := (Array.getElem?_eq_some_iff.1 hit2).1
     go_wp2_with fail
     refine (HS.out).mono ?_
     rintro e W' ⟨rfl, q, rfl⟩
     have hown3 := own_drewN hown2 q
     have hbw3 := pw_below_drewN hbw2 q
     have hit3 : (W.drewN q).heap[w.heap.size]? = some (.stringIter s (pos + K)) := hit2
     have hz3 : w.heap.size < (W.drewN q).heap.size := hz
     clear hown2 hbw2 hit2 hz
     generalize W.drewN q = W3 at *
     go_wp2_with (at_builtin; refine wpList_append_own _ rfl _ _ 33 rfl w.heap.size 9 i0 (.string ⟨#[]⟩) 1 16 Tryz.underlying33 hi hz0 hz1 hz2 rfl (by decide) _ _ _ rfl (hown3.alloc _) ⟨W3.heap.size, 0, none⟩ 1 1 [_] rfl rfl (one_new W3 _ _) (by intro u hu; simp at hu; subst hu; rfl) (by unfold maxLen; omega) (by omega) (by simp; omega) ?_; intro v' w1 hown' hgrow _)
     obtain ⟨hit4, hbw4⟩ := low_step _ hbw3 hit3 hown3 hgrow
     have hown4 : w1.ownsRow w.heap.size 9 1 v' (acc ++ [(a, pos)]).length ((acc ++ [(a, pos)]).map (spanS s)) := by
      rw [List.length_append, List.map_append]
      exact hown'
     clear hown' hgrow hown3 hit3 hbw3
     go_roundg g'
     case measure => omega
     case rel => exact ⟨pos + K, none, acc ++ [(a, pos)], -1, rfl, fun _ => by omega, (fun a h => by cases h), by omega, hown4, hit4, hbw4, HG2, by omega, hwn, by simp; omega, (fun a h => by cases h)⟩
  ·have hnx := fun ty => run_next_end_at (P := Tryz.prog) wr w.heap.size s pos ty hit hlt
   have hend : Lib.spansOfP spaceZ s = Lib.closeSpans s (acc, st) := by
    have := HG.out
    rw [Lib.spansFromP_end _ _ _ _ _ _ hlt] at this
    unfold Lib.spansOfP
    rw [← this]
   have hz3 : w.heap.size < wr.heap.size := (Array.getElem?_eq_some_iff.1 hit).1
   cases st with
   | none =>
    have hz0' : z < 0 := hzn rfl
    have hE : Lib.spansOfP spaceZ s = acc := hend
    have HE := Lib.hid hE
    clear HG hend hE
    go_wp2_with fail
    go_ret
    refine ⟨_, rfl, ?_, hbw⟩
    rw [HE.out]
    exact hown
   | some a =>
    have hza : z = (a : Int) := hzs a rfl
    subst hza
    have hapos := hst a rfl
    have hE : Lib.spansOfP spaceZ s = acc ++ [(a, s.size)] := hend
    have HE := Lib.hid hE
    clear HG hend hE
    go_wp2_with (at_builtin; refine wpList_append_own _ rfl _ _ 33 rfl w.heap.size 9 i0 (.string ⟨#[]⟩) 1 16 Tryz.underlying33 hi hz0 hz1 hz2 rfl (by decide) _ _ _ rfl (hown.alloc _) ⟨wr.heap.size, 0, none⟩ 1 1 [_] rfl rfl (one_new wr _ _) (by intro u hu; simp at hu; subst hu; rfl) (by unfold maxLen; omega) (by omega) (by simp; omega) ?_; intro v' w1 hown' hgrow _)
    obtain ⟨hit4, hbw4⟩ := low_step _ hbw hit hown hgrow
    go_ret
    refine ⟨_, rfl, ?_, hbw4⟩
    rw [HE.out, List.length_append, List.map_append]
    exact hown'
end Go.Proofs.YtmecbmgfacpecaaGreatDoor.Cron
