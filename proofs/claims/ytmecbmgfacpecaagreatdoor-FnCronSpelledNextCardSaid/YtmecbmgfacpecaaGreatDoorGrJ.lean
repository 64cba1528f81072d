/- Lemmas and walks on the way to the law, merged by wip/tools/pack.py: Spell, ItoaS, Style, StyleV, StyleI, SpellU. Conditions: none. -/
import Derived.Test.YtmecbmgfacpecaaGreatDoorGrI
import Derived.Test.YtmecbmgfacpecaaGreatDoorPrA
import Derived.Test.YtmecbmgfacpecaaGreatDoorGrE
namespace Go.Proofs.YtmecbmgfacpecaaGreatDoor.Cron
open Go Go.RowKit Go.Proofs.YtmecbmgfacpecaaGreatDoor.Text Go.Proofs.YtmecbmgfacpecaaGreatDoor.Bits
set_option linter.unusedVariables false
set_option linter.unusedSimpArgs false
def okV (c : UInt8) : Prop := (48 ≤ c.toNat ∧ c.toNat ≤ 57) ∨ (65 ≤ c.toNat ∧ c.toNat ≤ 122)
def okI (c : UInt8) : Prop := okV c ∨ c = 42 ∨ c = 45 ∨ c = 47 ∨ c = 63
structure ValT (k v : Nat) (l : List UInt8) : Prop where
 val : valK k l = some v
 ok : ∀ c ∈ l, okV c
 ne : l ≠ []
structure NumT (n : Nat) (l : List UInt8) : Prop where
 num : mp l = some n
 ok : ∀ c ∈ l, 48 ≤ c.toNat ∧ c.toNat ≤ 57
 ne : l ≠ []
structure ItemT (k lo hi b : Nat) (l : List UInt8) : Prop where
 bits : rangeS (valK k) lo hi l = some b
 ok : ∀ c ∈ l, okI c
 ne : l ≠ []
theorem okV_ne {c : UInt8} (h : okV c) (x : UInt8) (hx : x.toNat < 48 ∨ x.toNat = 63) : c ≠ x := by
 intro e
 subst e
 unfold okV at h
 omega
theorem num_ne {n : Nat} {l : List UInt8} (h : NumT n l) (x : UInt8) (hx : x.toNat < 48) : ∀ c ∈ l, c ≠ x := by
 intro c hc e
 subst e
 have := h.ok c hc
 omega
theorem ValT.free {k v : Nat} {l : List UInt8} (h : ValT k v l) (x : UInt8) (hx : x.toNat < 48 ∨ x.toNat = 63) : ∀ c ∈ l, c ≠ x := fun c hc => okV_ne (h.ok c hc) x hx
theorem ValT.star {k v : Nat} {l : List UInt8} (h : ValT k v l) : ¬ (l = [42] ∨ l = [63]) := by
 rintro (e | e)
 ·exact h.free 42 (by decide) 42 (by rw [e]; simp) rfl
 ·exact h.free 63 (by decide) 63 (by rw [e]; simp) rfl
theorem NumT.okI {n : Nat} {l : List UInt8} (h : NumT n l) : ∀ c ∈ l, okI c := fun c hc => Or.inl (Or.inl (h.ok c hc))
theorem ValT.okI {k v : Nat} {l : List UInt8} (h : ValT k v l) : ∀ c ∈ l, okI c := fun c hc => Or.inl (h.ok c hc)
theorem item_val {k v lo hi : Nat} {l : List UInt8} (h : ValT k v l) (h1 : lo ≤ v) (h2 : v ≤ hi) : ItemT k lo hi (steps v v 1) l := by
 refine ⟨?_, h.okI, h.ne⟩
 rw [rangeS_some (splitL_plain _ (h.free 47 (by decide))) (splitL_plain _ (h.free 45 (by decide))) (a := v) (b := v) (st := false) (by rw [ends_else _ h.star, h.val]; rfl)]
 simp only [rangeFin, stepOf, bitsOf]
 rw [if_neg (by omega), if_neg (by omega), if_neg (by omega), if_neg (by omega)]
 simp
theorem range_free {k a b : Nat} {l m : List UInt8} (h : ValT k a l) (g : ValT k b m) : ∀ c ∈ l ++ 45 :: m, c ≠ 47 := by
 intro c hc
 rw [List.mem_append, List.mem_cons] at hc
 rcases hc with hc | hc | hc
 ·exact h.free 47 (by decide) c hc
 ·rw [hc]; decide
 ·exact g.free 47 (by decide) c hc
theorem range_okI {k a b : Nat} {l m : List UInt8} (h : ValT k a l) (g : ValT k b m) : ∀ c ∈ l ++ 45 :: m, okI c := by
 intro c hc
 rw [List.mem_append, List.mem_cons] at hc
 rcases hc with hc | hc | hc
 ·exact h.okI c hc
 ·exact Or.inr (Or.inr (Or.inl hc))
 ·exact g.okI c hc
theorem range_parts {k a b : Nat} {l m : List UInt8} (h : ValT k a l) (g : ValT k b m) : splitL 45 (l ++ 45 :: m) = [l, m] := by
 rw [splitL_part _ _ (h.free 45 (by decide)), splitL_plain _ (g.free 45 (by decide))]
theorem range_ends {k a b lo hi : Nat} {l m : List UInt8} (h : ValT k a l) (g : ValT k b m) : ends (valK k) lo hi [l, m] = some (a, b, false) := by
 rw [ends_else _ h.star, h.val]
 simp only [endsRest]
 rw [g.val]
theorem item_range {k a b lo hi : Nat} {l m : List UInt8} (h : ValT k a l) (g : ValT k b m) (h1 : lo ≤ a) (h2 : a ≤ b) (h3 : b ≤ hi) : ItemT k lo hi (steps a b 1) (l ++ 45 :: m) := by
 refine ⟨?_, range_okI h g, by simp⟩
 rw [rangeS_some (splitL_plain _ (range_free h g)) (range_parts h g) (range_ends h g)]
 simp only [rangeFin, stepOf, bitsOf]
 rw [if_neg (by omega), if_neg (by omega), if_neg (by omega), if_neg (by omega)]
 simp
theorem by_ok {s : Nat} {p n : List UInt8} (hp : ∀ c ∈ p, okI c) (g : NumT s n) : ∀ c ∈ p ++ 47 :: n, okI c := by
 intro c hc
 rw [List.mem_append, List.mem_cons] at hc
 rcases hc with hc | hc | hc
 ·exact hp c hc
 ·exact Or.inr (Or.inr (Or.inr (Or.inl hc)))
 ·exact g.okI c hc
theorem by_split {s : Nat} {p n : List UInt8} (hp : ∀ c ∈ p, c ≠ 47) (g : NumT s n) : splitL 47 (p ++ 47 :: n) = p :: [n] := by
 rw [splitL_part _ _ hp, splitL_plain _ (num_ne g 47 (by decide))]
theorem item_range_by {k a b s lo hi : Nat} {l m n : List UInt8} (h : ValT k a l) (g : ValT k b m) (hs : NumT s n) (h0 : 0 < s) (h1 : lo ≤ a) (h2 : a ≤ b) (h3 : b ≤ hi) : ItemT k lo hi (steps a b s) ((l ++ 45 :: m) ++ 47 :: n) := by
 refine ⟨?_, by_ok (range_okI h g) hs, by simp⟩
 rw [rangeS_some (by_split (range_free h g) hs) (range_parts h g) (range_ends h g)]
 simp only [rangeFin, stepOf, bitsOf]
 rw [hs.num]
 simp only [List.length_cons, List.length_nil]
 rw [if_neg (by omega), if_neg (by simp; omega), if_neg (by simp; omega), if_neg (by omega)]
 simp
theorem item_by {k a s lo hi : Nat} {l n : List UInt8} (h : ValT k a l) (hs : NumT s n) (h0 : 0 < s) (h1 : lo ≤ a) (h2 : a ≤ hi) : ItemT k lo hi (steps a hi s) (l ++ 47 :: n) := by
 refine ⟨?_, by_ok h.okI hs, by simp⟩
 rw [rangeS_some (by_split (h.free 47 (by decide)) hs) (splitL_plain _ (h.free 45 (by decide))) (a := a) (b := a) (st := false) (by rw [ends_else _ h.star, h.val]; rfl)]
 simp only [rangeFin, stepOf, bitsOf]
 rw [hs.num]
 simp only [List.length_cons, List.length_nil]
 rw [if_neg (by omega), if_neg (by simp), if_neg (by simp; omega), if_neg (by omega)]
 simp
theorem star_ends {k lo hi : Nat} (c : UInt8) (hc : c = 42 ∨ c = 63) : ends (valK k) lo hi [[c]] = some (lo, hi, true) := ends_star _ (by rcases hc with rfl | rfl <;> simp)
theorem star_ok {c : UInt8} (hc : c = 42 ∨ c = 63) : ∀ x ∈ [c], okI x := by
 intro x hx
 rw [List.mem_singleton] at hx
 subst hx
 rcases hc with rfl | rfl
 ·exact Or.inr (Or.inl rfl)
 ·exact Or.inr (Or.inr (Or.inr (Or.inr rfl)))
theorem star_free {c : UInt8} (hc : c = 42 ∨ c = 63) (y : UInt8) (hy : y = 45 ∨ y = 47) : ∀ x ∈ [c], x ≠ y := by
 intro x hx
 rw [List.mem_singleton] at hx
 subst hx
 rcases hc with rfl | rfl <;> rcases hy with rfl | rfl <;> decide
theorem item_star {k lo hi : Nat} (c : UInt8) (hc : c = 42 ∨ c = 63) (h : lo ≤ hi) : ItemT k lo hi (steps lo hi 1 ||| 9223372036854775808) [c] := by
 refine ⟨?_, star_ok hc, by simp⟩
 rw [rangeS_some (splitL_plain _ (star_free hc 47 (.inr rfl))) (splitL_plain _ (star_free hc 45 (.inl rfl))) (star_ends c hc)]
 simp only [rangeFin, stepOf, bitsOf]
 rw [if_neg (by omega), if_neg (by omega), if_neg (by omega), if_neg (by omega)]
 simp
theorem item_star_by {k s lo hi : Nat} {n : List UInt8} (c : UInt8) (hc : c = 42 ∨ c = 63) (hs : NumT s n) (h0 : 0 < s) (h : lo ≤ hi) : ItemT k lo hi (steps lo hi s ||| (if s = 1 then 9223372036854775808 else 0)) ([c] ++ 47 :: n) := by
 refine ⟨?_, by_ok (star_ok hc) hs, by simp⟩
 rw [rangeS_some (by_split (star_free hc 47 (.inr rfl)) hs) (splitL_plain _ (star_free hc 45 (.inl rfl))) (star_ends c hc)]
 simp only [rangeFin, stepOf, bitsOf]
 rw [hs.num]
 simp only [List.length_cons, List.length_nil]
 rw [if_neg (by omega), if_neg (by simp), if_neg (by simp; omega), if_neg (by omega)]
 by_cases h1 : s = 1
 ·subst h1
  simp
 ·have h2 : 1 < s := by omega
  rw [if_neg h1]
  simp [h2]
theorem steps_last {v a b s : Nat} (h : ∀ j, v ≤ j → (j - v) % s = 0 → (j ≤ a ↔ j ≤ b)) : steps v a s = steps v b s := by
 unfold steps
 apply mkBits_ext
 intro j _
 by_cases hv : v ≤ j
 ·by_cases hm : (j - v) % s = 0
  ·have := h j hv hm
   rw [show decide (j ≤ a) = decide (j ≤ b) from decide_eq_decide.2 this]
  ·rw [show ((j - v) % s == 0) = false from by simpa using hm, Bool.and_false, Bool.and_false]
 ·simp only [decide_eq_false hv, Bool.false_and]
def joinC : List (List UInt8) → List UInt8
 | [] => []
 | [x] => x
 | x :: y :: r => x ++ 44 :: joinC (y :: r)
theorem okI_comma {c : UInt8} (h : okI c) : c ≠ 44 := by
 rcases h with h | h | h | h | h
 ·exact okV_ne h 44 (by decide)
 all_goals (rw [h]; decide)
theorem parts_joinC : ∀ (L : List (List UInt8)), L ≠ [] → (∀ x ∈ L, x ≠ [] ∧ ∀ c ∈ x, c ≠ 44) → partsL 44 (joinC L) = L
 | [], h, _ => absurd rfl h
 | [x], _, hx => by
  have h := hx x (by simp)
  unfold partsL joinC
  rw [splitL_plain _ h.2]
  rw [List.filter_cons_of_pos (by simpa using h.1), List.filter_nil]
 | x :: y :: r, _, hx => by
  have h := hx x (by simp)
  have ih := parts_joinC (y :: r) (by simp) (fun z hz => hx z (List.mem_cons_of_mem _ hz))
  unfold partsL at ih ⊢
  rw [joinC, splitL_part _ _ h.2]
  rw [List.filter_cons_of_pos (by simpa using h.1), ih]
inductive ItemsT (k lo hi : Nat) : Nat → List (List UInt8) → Prop
 | nil : ItemsT k lo hi 0 []
 | cons {b n : Nat} {x : List UInt8} {L : List (List UInt8)} : ItemT k lo hi b x → ItemsT k lo hi n L → ItemsT k lo hi (b ||| n) (x :: L)
theorem ItemsT.app {k lo hi : Nat} {n m : Nat} {L M : List (List UInt8)} (h : ItemsT k lo hi n L) (g : ItemsT k lo hi m M) : ItemsT k lo hi (n ||| m) (L ++ M) := by
 induction h with
 | nil => simpa using g
 | cons hx _ ih => rw [Nat.or_assoc]; exact .cons hx ih
theorem ItemsT.perm {k lo hi : Nat} {L M : List (List UInt8)} (p : L.Perm M) : ∀ {n : Nat}, ItemsT k lo hi n L → ItemsT k lo hi n M := by
 induction p with
 | nil => exact fun h => h
 | cons x _ ih => intro n h; cases h with | cons hx h => exact .cons hx (ih h)
 | swap x y l =>
  intro n h
  cases h with | cons hy h => cases h with | cons hx h =>
   rw [← Nat.or_assoc, Nat.or_comm _ _, ← Nat.or_assoc] at *
   exact (by rw [show ∀ a b c : Nat, c ||| a ||| b = b ||| (a ||| c) from fun a b c => by rw [Nat.or_comm, Nat.or_comm c a]] at *; exact .cons hx (.cons hy h))
 | trans _ _ ih1 ih2 => exact fun h => ih2 (ih1 h)
theorem ItemsT.all {k lo hi n : Nat} {L : List (List UInt8)} (h : ItemsT k lo hi n L) : ∀ x ∈ L, x ≠ [] ∧ ∀ c ∈ x, okI c := by
 induction h with
 | nil => intro x hx; cases hx
 | cons hx _ ih =>
  intro y hy
  rcases List.mem_cons.1 hy with rfl | hy
  ·exact ⟨hx.ne, hx.ok⟩
  ·exact ih y hy
theorem ItemsT.go {k lo hi n : Nat} {L : List (List UInt8)} (h : ItemsT k lo hi n L) : ∀ acc, fieldGo (rangeS (valK k) lo hi) L acc = some (acc ||| n) := by
 induction h with
 | nil => intro acc; simp [fieldGo]
 | cons hx _ ih =>
  intro acc
  simp only [fieldGo]
  rw [hx.bits]
  simp only
  rw [ih, Nat.or_assoc]
theorem ItemsT.field {k lo hi n : Nat} {L : List (List UInt8)} (h : ItemsT k lo hi n L) (hne : L ≠ []) : fieldS (valK k) lo hi (joinC L) = some n := by
 unfold fieldS
 rw [parts_joinC L hne (fun x hx => ⟨(h.all x hx).1, fun c hc => okI_comma ((h.all x hx).2 c hc)⟩), h.go, Nat.zero_or]
end Go.Proofs.YtmecbmgfacpecaaGreatDoor.Cron
namespace Go.Proofs.YtmecbmgfacpecaaGreatDoor.Cron
open Go Go.RowKit Go.Proofs.YtmecbmgfacpecaaGreatDoor.Text Go.Proofs.YtmecbmgfacpecaaGreatDoor.Bits
set_option linter.unusedVariables false
theorem itoaS_any (i : Nat) (hi : i < 100) (w : World) : Calls Tryz.prog 31 #[.int .i64 i] w fun e w' => e = .returned (.string (ba (dig i))) ∧ w' = w := by
 have HC := Lib.hid (fun w' : World => Tryz.internal_strconv_Itoa_small i hi w')
 rw [decDigits_dig i hi] at HC
 go_enter Tryz.func31, Tryz.ntmps31
 go_wp2_with fail
 refine (HC.out _).mono ?_
 rintro e w' ⟨rfl, rfl⟩
 go_wp2_with fail
 go_ret
 exact ⟨rfl, rfl⟩
end Go.Proofs.YtmecbmgfacpecaaGreatDoor.Cron
namespace Go.Proofs.YtmecbmgfacpecaaGreatDoor.Cron
open Go Go.RowKit Go.Proofs.YtmecbmgfacpecaaGreatDoor.Text Go.Proofs.YtmecbmgfacpecaaGreatDoor.Bits Go.Proofs.YtmecbmgfacpecaaGreatDoorW.PrintWords Go.Proofs.YtmecbmgfacpecaaGreatDoorW.PrintLast Go.Proofs.YtmecbmgfacpecaaGreatDoorW.PrintMore Go.Proofs.YtmecbmgfacpecaaGreatDoor.Pr
set_option linter.unusedVariables false
set_option linter.unusedSimpArgs false
def Sty (w0 w : World) (g : Nat) : Prop := Below w0.heap.size w0 w ∧ ∃ L i, IsS156 w0 w g L i ∧ 0 ≤ i ∧ L.length ≤ 4294967296 ∧ ∀ x ∈ L, (0 : Int) ≤ x ∧ x < 256
def StyTo (w0 w : World) (g : Nat) (w' : World) : Prop := Sty w0 w' g ∧ KeepBut w w' g none
theorem Sty.lt {w0 w : World} {g : Nat} (h : Sty w0 w g) : w0.heap.size ≤ g ∧ g < w.heap.size := by
 obtain ⟨_, L, i, hI, _⟩ := h
 obtain ⟨A, c, hb, hg, _⟩ := hI
 exact ⟨hg, (Array.getElem?_eq_some_iff.1 hb).1⟩
theorem Sty.self {w0 w : World} {g : Nat} (h : Sty w0 w g) : StyTo w0 w g w := ⟨h, KeepBut.refl _ _ _⟩
theorem StyTo.trans {w0 w w1 w2 : World} {g : Nat} (h : StyTo w0 w g w1) (k : StyTo w0 w1 g w2) : StyTo w0 w g w2 := ⟨k.1, h.2.trans k.2 (.inl rfl)⟩
theorem Sty.below {w0 w w' : World} {g : Nat} (h : Sty w0 w g) (hb : Below w.heap.size w w') : StyTo w0 w g w' := by
 obtain ⟨h0, L, i, hI, h1⟩ := h
 exact ⟨⟨below_of_le h0 hb, L, i, hI.below hb, h1⟩, KeepBut.of_below hb _ _⟩
theorem StyTo.below {w0 w w1 w2 : World} {g : Nat} (h : StyTo w0 w g w1) (hb : Below w1.heap.size w1 w2) : StyTo w0 w g w2 := h.trans (h.1.below hb)
theorem pick_any {w0 w : World} {g : Nat} (hs : Sty w0 w g) (n : Nat) (hn : 0 < n) :
  Calls Tryz.prog 81 #[.pointer (some ⟨g, 0, none⟩), .int .i64 n] w fun e w' => ∃ r : Nat, r < n ∧ e = .returned (.int .i64 r) ∧ StyTo w0 w g w' := by
 obtain ⟨hB, L, i, hI, hi, hL, hx⟩ := hs
 by_cases h : i ≥ (L.length : Int)
 ·refine (spec_CronStyle_Pick.calls g L i n 0 i w0 w hI hB (by unfold spec_CronStyle_Pick.f; rw [if_pos h])).mono ?_
  rintro e w' ⟨he, hI', hB', hk⟩
  exact ⟨0, hn, he, ⟨hB', L, i, hI', hi, hL, hx⟩, hk⟩
 ·have hw1 : wrap64 (i + 1) = i + 1 := by unfold wrap64; omega
  have hw2 : wrap64 (i + 1 - 1) = i := by unfold wrap64; omega
  have hr : 0 ≤ rd L i ∧ rd L i < 256 := by
   unfold rd
   have hl : i.toNat < L.length := by omega
   rw [List.getD_eq_getElem?_getD, List.getElem?_eq_getElem hl]
   exact hx _ (List.getElem_mem hl)
  have hw3 : wrap64 (rd L i) = rd L i := by unfold wrap64; omega
  refine (spec_CronStyle_Pick.calls g L i n (Int.tmod (rd L i) n) (i + 1) w0 w hI hB (by
   unfold spec_CronStyle_Pick.f
   rw [if_neg h, hw1, hw2, if_pos hi, if_pos (by omega), if_neg (by omega), hw3])).mono ?_
  rintro e w' ⟨he, hI', hB', hk⟩
  obtain ⟨m, hm⟩ : ∃ m : Nat, rd L i = m := ⟨(rd L i).toNat, by omega⟩
  refine ⟨m % n, Nat.mod_lt _ hn, ?_, ⟨hB', L, i + 1, hI', by omega, hL, hx⟩, hk⟩
  rw [he, hm, Int.ofNat_tmod]
theorem mp_zeros (n : Nat) (hn : n < 100) : ∀ z : Nat, z ≤ 9 → mp (List.replicate z 48 ++ dig n) = some n := by
 have h : ∀ z : Fin 10, ∀ n : Fin 100, mp (List.replicate z.val 48 ++ dig n.val) = some n.val := by decide +kernel
 exact fun z hz => h ⟨z, by omega⟩ ⟨n, hn⟩
theorem numT (n z : Nat) (hn : n < 100) (hz : z ≤ 9) : NumT n (List.replicate z 48 ++ dig n) := by
 refine ⟨mp_zeros n hn z hz, ?_, ?_⟩
 ·intro c hc
  rw [List.mem_append] at hc
  rcases hc with hc | hc
  ·rw [List.eq_of_mem_replicate hc]; decide
  ·exact dig_range ⟨n, hn⟩ c hc
 ·intro e
  have := congrArg List.length e
  simp [dig] at this
  split at this <;> simp at this
theorem dig_len (n : Nat) : (dig n).length ≤ 2 := by unfold dig; split <;> simp
theorem num_len (n z : Nat) (hz : z ≤ 9) : (List.replicate z 48 ++ dig n).length ≤ 11 := by
 rw [List.length_append, List.length_replicate]
 have := dig_len n
 omega
def zerosB (z : Nat) : ByteArray := ba (List.replicate z 48)
theorem zerosB_size (z : Nat) : (zerosB z).size = z := by simp [zerosB, ba, ByteArray.size]
theorem zerosB_succ (z : Nat) : zerosB z ++ ⟨#[48]⟩ = zerosB (z + 1) := by
 apply ByteArray.ext
 apply Array.ext'
 simp [zerosB, ba, ← List.replicate_append_replicate, List.replicate_succ']
theorem zerosB_dig (z n : Nat) : zerosB z ++ ba (dig n) = ba (List.replicate z 48 ++ dig n) := by
 apply ByteArray.ext
 apply Array.ext'
 simp [zerosB, ba]
def strN : Value → Nat
 | .string b => b.size
 | _ => 0
theorem numberText_any {w0 w : World} {g : Nat} (hs : Sty w0 w g) (n : Nat) (hn : n < 100) :
  Calls Tryz.prog 202 #[.int .i64 n, .pointer (some ⟨g, 0, none⟩)] w fun e w' => ∃ l, NumT n l ∧ l.length ≤ 11 ∧ e = .returned (.string (ba l)) ∧ StyTo w0 w g w' := by
 have HP := Lib.hid (fun w' (h : Sty w0 w' g) => pick_any h 8 (by omega))
 have HI := Lib.hid (fun w' => itoaS_any n hn w')
 have HS := Lib.hid hs
 have hdl : (ba (dig n)).size ≤ 2 := by
  simp [ba, ByteArray.size, dig]
  split <;> simp
 clear hs
 go_enter Tryz.func202, Tryz.ntmps202
 go_wp2_with fail
 go_loopw [5] (fun v5 wr => ∃ z : Nat, v5 = .string (zerosB z) ∧ z ≤ 9 ∧ StyTo w0 w g wr) (fun v5 _ => 9 - strN v5)
 case atStart => exact ⟨0, rfl, by omega, HS.out.self⟩
 case round =>
  obtain ⟨z, rfl, hz, hst⟩ := hrel
  have hsz := zerosB_size z
  have HST := Lib.hid hst
  clear hst
  go_wp2_with fail
  refine (HP.out _ HST.out.1).mono ?_
  rintro e w1 ⟨r, hr, rfl, hst1⟩
  have HST1 := Lib.hid (HST.out.trans hst1)
  clear hst1 HST
  have hr8 : (r : Int) < 8 := by omega
  by_cases h7 : r = 7
  ·subst h7
   by_cases h9 : z < 9
   ·have hd : decide ((z : Int) < 9) = true := decide_eq_true (by omega)
    have hz1 := zerosB_succ z
    go_wp2_with fail
    go_roundw
    case rel => exact ⟨z + 1, by rw [← hz1], by omega, HST1.out⟩
    case measure => simp [strN, zerosB_size]; omega
   ·have hd : decide ((z : Int) < 9) = false := decide_eq_false (by omega)
    go_wp2_with fail
    refine (HI.out _).mono ?_
    rintro e w2 ⟨rfl, rfl⟩
    go_wp2_with fail
    go_ret
    exact ⟨_, numT n z hn hz, num_len n z hz, by show Ending.returned (Value.string (zerosB z ++ ba (dig n))) = _; rw [zerosB_dig], HST1.out⟩
  ·have hd : ((r : Int) == 7) = false := by simp; omega
   go_wp2_with fail
   refine (HI.out _).mono ?_
   rintro e w2 ⟨rfl, rfl⟩
   go_wp2_with fail
   go_ret
   exact ⟨_, numT n z hn hz, num_len n z hz, by show Ending.returned (Value.string (zerosB z ++ ba (dig n))) = _; rw [zerosB_dig], HST1.out⟩
theorem or_self_star {k lo hi : Nat} (h : lo ≤ hi) (x : UInt8) (hx : x = 42 ∨ x = 63) {l : List UInt8} (hl : NumT 1 l) : ItemT k lo hi (steps lo hi 1 ||| 9223372036854775808) ([x] ++ 47 :: l) := by
 have := item_star_by (k := k) x hx hl (by omega) h
 rwa [if_pos rfl] at this
theorem ba_app (a b : List UInt8) : ba a ++ ba b = ba (a ++ b) := by
 apply ByteArray.ext
 apply Array.ext'
 simp [ba]
theorem ba_size (a : List UInt8) : (ba a).size = a.length := by simp [ba, ByteArray.size]
theorem starText_any {w0 w : World} {g : Nat} (hs : Sty w0 w g) (k lo hi : Nat) (hk : k < 6) (h : lo ≤ hi) :
  Calls Tryz.prog 167 #[.int .i64 k, .pointer (some ⟨g, 0, none⟩)] w fun e w' => ∃ l, ItemT k lo hi (steps lo hi 1 ||| 9223372036854775808) l ∧ l.length ≤ 13 ∧ e = .returned (.string (ba l)) ∧ StyTo w0 w g w' := by
 have HP := Lib.hid (fun n hn w' (h : Sty w0 w' g) => pick_any h n hn)
 have HN := Lib.hid (fun w' (h : Sty w0 w' g) => numberText_any h 1 (by omega))
 have HS := Lib.hid hs
 clear hs
 -- STARWALK
 go_enter Tryz.func167, Tryz.ntmps167
 by_cases h3 : k = 3
 ·subst h3
  go_wp2_with fail
  refine (HP.out 2 (by omega) _ HS.out).mono ?_
  rintro e w1 ⟨r, hr, rfl, hst1⟩
  have HST1 := Lib.hid hst1
  clear hst1
  by_cases hr1 : r = 1
  ·subst hr1
   go_wp2_with fail
   refine (HP.out 8 (by omega) _ HST1.out.1).mono ?_
   rintro e w2 ⟨r2, hr2, rfl, hst2⟩
   have HST2 := Lib.hid (HST1.out.trans hst2)
   clear hst2 HST1
   by_cases h1 : r2 = 1
   ·subst h1
    go_wp2_with fail
    refine (HN.out _ HST2.out.1).mono ?_
    rintro e w3 ⟨l, hl, hll, rfl, hst3⟩
    have hsz : (ba l).size ≤ 11 := by rw [ba_size]; exact hll
    have HST3 := Lib.hid (HST2.out.trans hst3)
    clear hst3 HST2
    go_wp2_with fail
    go_ret
    exact ⟨[63] ++ 47 :: l, or_self_star h 63 (by decide) hl, by simp; omega, by show Ending.returned (Value.string (ba [63] ++ (ba [47] ++ ba l))) = _; rw [ba_app, ba_app]; rfl, HST3.out⟩
   ·have hd1 : ((r2 : Int) == 1) = false := by simp; omega
    go_wp2_with fail
    go_ret
    exact ⟨[63], item_star 63 (by decide) h, by simp, rfl, HST2.out⟩
  ·have hdr : ((r : Int) == 1) = false := by simp; omega
   go_wp2_with fail
   refine (HP.out 8 (by omega) _ HST1.out.1).mono ?_
   rintro e w2 ⟨r2, hr2, rfl, hst2⟩
   have HST2 := Lib.hid (HST1.out.trans hst2)
   clear hst2 HST1
   by_cases h1 : r2 = 1
   ·subst h1
    go_wp2_with fail
    refine (HN.out _ HST2.out.1).mono ?_
    rintro e w3 ⟨l, hl, hll, rfl, hst3⟩
    have hsz : (ba l).size ≤ 11 := by rw [ba_size]; exact hll
    have HST3 := Lib.hid (HST2.out.trans hst3)
    clear hst3 HST2
    go_wp2_with fail
    go_ret
    exact ⟨[42] ++ 47 :: l, or_self_star h 42 (by decide) hl, by simp; omega, by show Ending.returned (Value.string (ba [42] ++ (ba [47] ++ ba l))) = _; rw [ba_app, ba_app]; rfl, HST3.out⟩
   ·have hd1 : ((r2 : Int) == 1) = false := by simp; omega
    go_wp2_with fail
    go_ret
    exact ⟨[42], item_star 42 (by decide) h, by simp, rfl, HST2.out⟩
 ·have h3d : ((k : Int) == 3) = false := by simp; omega
  by_cases h5 : k = 5
  ·subst h5
   clear h3 h3d
   go_wp2_with fail
   refine (HP.out 2 (by omega) _ HS.out).mono ?_
   rintro e w1 ⟨r, hr, rfl, hst1⟩
   have HST1 := Lib.hid hst1
   clear hst1
   by_cases hr1 : r = 1
   ·subst hr1
    go_wp2_with fail
    refine (HP.out 8 (by omega) _ HST1.out.1).mono ?_
    rintro e w2 ⟨r2, hr2, rfl, hst2⟩
    have HST2 := Lib.hid (HST1.out.trans hst2)
    clear hst2 HST1
    by_cases h1 : r2 = 1
    ·subst h1
     go_wp2_with fail
     refine (HN.out _ HST2.out.1).mono ?_
     rintro e w3 ⟨l, hl, hll, rfl, hst3⟩
     have hsz : (ba l).size ≤ 11 := by rw [ba_size]; exact hll
     have HST3 := Lib.hid (HST2.out.trans hst3)
     clear hst3 HST2
     go_wp2_with fail
     go_ret
     exact ⟨[63] ++ 47 :: l, or_self_star h 63 (by decide) hl, by simp; omega, by show Ending.returned (Value.string (ba [63] ++ (ba [47] ++ ba l))) = _; rw [ba_app, ba_app]; rfl, HST3.out⟩
    ·have hd1 : ((r2 : Int) == 1) = false := by simp; omega
     go_wp2_with fail
     go_ret
     exact ⟨[63], item_star 63 (by decide) h, by simp, rfl, HST2.out⟩
   ·have hdr : ((r : Int) == 1) = false := by simp; omega
    go_wp2_with fail
    refine (HP.out 8 (by omega) _ HST1.out.1).mono ?_
    rintro e w2 ⟨r2, hr2, rfl, hst2⟩
    have HST2 := Lib.hid (HST1.out.trans hst2)
    clear hst2 HST1
    by_cases h1 : r2 = 1
    ·subst h1
     go_wp2_with fail
     refine (HN.out _ HST2.out.1).mono ?_
     rintro e w3 ⟨l, hl, hll, rfl, hst3⟩
     have hsz : (ba l).size ≤ 11 := by rw [ba_size]; exact hll
     have HST3 := Lib.hid (HST2.out.trans hst3)
     clear hst3 HST2
     go_wp2_with fail
     go_ret
     exact ⟨[42] ++ 47 :: l, or_self_star h 42 (by decide) hl, by simp; omega, by show Ending.returned (Value.string (ba [42] ++ (ba [47] ++ ba l))) = _; rw [ba_app, ba_app]; rfl, HST3.out⟩
    ·have hd1 : ((r2 : Int) == 1) = false := by simp; omega
     go_wp2_with fail
     go_ret
     exact ⟨[42], item_star 42 (by decide) h, by simp, rfl, HST2.out⟩
  ·have h5d : ((k : Int) == 5) = false := by simp; omega
   have HST1 := Lib.hid (HS.out.self)
   go_wp2_with fail
   refine (HP.out 8 (by omega) _ HST1.out.1).mono ?_
   rintro e w2 ⟨r2, hr2, rfl, hst2⟩
   have HST2 := Lib.hid (HST1.out.trans hst2)
   clear hst2 HST1
   by_cases h1 : r2 = 1
   ·subst h1
    go_wp2_with fail
    refine (HN.out _ HST2.out.1).mono ?_
    rintro e w3 ⟨l, hl, hll, rfl, hst3⟩
    have hsz : (ba l).size ≤ 11 := by rw [ba_size]; exact hll
    have HST3 := Lib.hid (HST2.out.trans hst3)
    clear hst3 HST2
    go_wp2_with fail
    go_ret
    exact ⟨[42] ++ 47 :: l, or_self_star h 42 (by decide) hl, by simp; omega, by show Ending.returned (Value.string (ba [42] ++ (ba [47] ++ ba l))) = _; rw [ba_app, ba_app]; rfl, HST3.out⟩
   ·have hd1 : ((r2 : Int) == 1) = false := by simp; omega
    go_wp2_with fail
    go_ret
    exact ⟨[42], item_star 42 (by decide) h, by simp, rfl, HST2.out⟩
-- STAREND
end Go.Proofs.YtmecbmgfacpecaaGreatDoor.Cron
namespace Go.Proofs.YtmecbmgfacpecaaGreatDoor.Cron
open Go Go.RowKit Go.Proofs.YtmecbmgfacpecaaGreatDoor.Text Go.Proofs.YtmecbmgfacpecaaGreatDoor.Bits Go.Proofs.YtmecbmgfacpecaaGreatDoorW.PrintWords Go.Proofs.YtmecbmgfacpecaaGreatDoorW.PrintLast Go.Proofs.YtmecbmgfacpecaaGreatDoorW.PrintMore Go.Proofs.YtmecbmgfacpecaaGreatDoor.Pr
set_option linter.unusedVariables false
set_option linter.unusedSimpArgs false
def namesM : List UInt8 := [46, 46, 46, 74, 65, 78, 70, 69, 66, 77, 65, 82, 65, 80, 82, 77, 65, 89, 74, 85, 78, 74, 85, 76, 65, 85, 71, 83, 69, 80, 79, 67, 84, 78, 79, 86, 68, 69, 67]
def namesD : List UInt8 := [83, 85, 78, 77, 79, 78, 84, 85, 69, 87, 69, 68, 84, 72, 85, 70, 82, 73, 83, 65, 84]
def nameL (k v : Nat) : List UInt8 := if k = 4 then (namesM.drop (3 * v)).take 3 else if k = 5 then (namesD.drop (3 * v)).take 3 else []
theorem nameM_len : ∀ v : Fin 13, (nameL 4 v.val).length = 3 := by decide
theorem nameD_len : ∀ v : Fin 7, (nameL 5 v.val).length = 3 := by decide
def mixL (l : List UInt8) (m : List Bool) : List UInt8 := List.zipWith (fun c b => if b then c + 32 else c) l m
theorem mix_months : ∀ v : Fin 12, ∀ a b c : Bool, (mixL (nameL 4 (v.val + 1)) [a, b, c]).length = 3 ∧ (∀ x ∈ mixL (nameL 4 (v.val + 1)) [a, b, c], okV x) ∧ lookL (ba ((mixL (nameL 4 (v.val + 1)) [a, b, c]).map low8)) monthsL = some ((v.val : Int) + 1) := by unfold okV; decide +kernel
theorem mix_dow : ∀ v : Fin 7, ∀ a b c : Bool, (mixL (nameL 5 v.val) [a, b, c]).length = 3 ∧ (∀ x ∈ mixL (nameL 5 v.val) [a, b, c], okV x) ∧ lookL (ba ((mixL (nameL 5 v.val) [a, b, c]).map low8)) dowL = some (v.val : Int) := by unfold okV; decide +kernel
theorem ok_ascii {l : List UInt8} (h : ∀ x ∈ l, okV x) : ∀ c ∈ (ba l).data.toList, c.toNat < 128 := by
 rw [ba_list]
 intro c hc
 have := h c hc
 unfold okV at this
 omega
theorem valT_months (v : Nat) (h1 : 1 ≤ v) (h2 : v ≤ 12) (a b c : Bool) : ValT 4 v (mixL (nameL 4 v) [a, b, c]) := by
 have h := mix_months ⟨v - 1, by omega⟩ a b c
 simp only [show v - 1 + 1 = v by omega] at h
 refine ⟨?_, h.2.1, fun e => by rw [e] at h; simp at h⟩
 unfold valK valN
 rw [if_pos rfl, low_ascii _ (ok_ascii h.2.1), ba_list, h.2.2]
 simp
 omega
theorem valT_dow (v : Nat) (h2 : v ≤ 6) (a b c : Bool) : ValT 5 v (mixL (nameL 5 v) [a, b, c]) := by
 have h := mix_dow ⟨v, by omega⟩ a b c
 refine ⟨?_, h.2.1, fun e => by rw [e] at h; simp at h⟩
 unfold valK valN
 rw [if_neg (by omega), if_pos rfl, low_ascii _ (ok_ascii h.2.1), ba_list, h.2.2]
 simp
theorem num_months : ∀ z : Fin 10, ∀ n : Fin 100, lookL (ba (List.replicate z.val 48 ++ dig n.val)) monthsL = none := by decide +kernel
theorem num_dow : ∀ z : Fin 10, ∀ n : Fin 100, lookL (ba (List.replicate z.val 48 ++ dig n.val)) dowL = none := by decide +kernel
theorem num_low {l : List UInt8} (hr : ∀ c ∈ l, 48 ≤ c.toNat ∧ c.toNat ≤ 57) : lowB (ba l) = ba l := by
 rw [low_ascii (ba l) (by rw [ba_list]; intro c hc; have := hr c hc; omega), ba_list]
 congr 1
 rw [List.map_congr_left (g := id)]
 ·simp
 ·intro c hc
  have := hr c hc
  unfold low8
  rw [if_neg (by omega)]
  rfl
theorem valT_num (k v z : Nat) (hv : v < 100) (hz : z ≤ 9) : ValT k v (List.replicate z 48 ++ dig v) := by
 have h := numT v z hv hz
 refine ⟨?_, fun c hc => .inl (h.ok c hc), h.ne⟩
 unfold valK
 by_cases h4 : k = 4
 ·rw [if_pos h4, valN, num_low h.ok, num_months ⟨z, by omega⟩ ⟨v, hv⟩]
  exact h.num
 ·rw [if_neg h4]
  by_cases h5 : k = 5
  ·rw [if_pos h5, valN, num_low h.ok, num_dow ⟨z, by omega⟩ ⟨v, hv⟩]
   exact h.num
  ·rw [if_neg h5]
   exact h.num
theorem cronName_months : ∀ v : Fin 12, spec_CronName.f 2 4 ((v.val : Int) + 1) = some (ba (nameL 4 (v.val + 1))) := by decide +kernel
theorem cronName_dow : ∀ v : Fin 7, spec_CronName.f 2 5 (v.val : Int) = some (ba (nameL 5 v.val)) := by decide +kernel
theorem cronName_none (k v : Nat) (h4 : k ≠ 4) (h5 : k ≠ 5) : spec_CronName.f 2 k v = some (ba []) := by
 have e4 : ¬ (k : Int) = 4 := by omega
 have e5 : ¬ (k : Int) = 5 := by omega
 simp [spec_CronName.f, spec_CronName.j0, spec_CronName.j1, toList_data, e4, e5]
 rfl
def inK (k v : Nat) : Prop := v ≤ 59 ∧ (k = 4 → 1 ≤ v ∧ v ≤ 12) ∧ (k = 5 → v ≤ 6)
theorem nameL_len (k v : Nat) (h : inK k v) (hn : nameL k v ≠ []) : (nameL k v).length = 3 := by
 by_cases h4 : k = 4
 ·subst h4
  have := h.2.1 rfl
  exact nameM_len ⟨v, by omega⟩
 ·by_cases h5 : k = 5
  ·subst h5
   have := h.2.2 rfl
   exact nameD_len ⟨v, by omega⟩
  ·unfold nameL at hn
   rw [if_neg h4, if_neg h5] at hn
   exact absurd rfl hn
theorem cronName_any (k v : Nat) (h : inK k v) (w : World) : Calls Tryz.prog 191 #[.int .i64 k, .int .i64 v] w fun e w' => e = .returned (.string (ba (nameL k v))) ∧ Below w.heap.size w w' := by
 have hc : spec_CronName.f 2 k v = some (ba (nameL k v)) := by
  by_cases h4 : k = 4
  ·subst h4
   have := h.2.1 rfl
   have e := cronName_months ⟨v - 1, by omega⟩
   simp only [show v - 1 + 1 = v by omega] at e
   rw [← e]
   congr 1
   omega
  ·by_cases h5 : k = 5
   ·subst h5
    have := h.2.2 rfl
    exact cronName_dow ⟨v, by omega⟩
   ·rw [cronName_none k v h4 h5, nameL, if_neg h4, if_neg h5]
 refine (spec_CronName.calls 2 k v _ w hc).mono ?_
 rintro e w' ⟨he, hd⟩
 exact ⟨he, hd.below⟩
structure Row3 (w : World) (R : Nat) (l : List UInt8) : Prop where
 lt : R < w.heap.size
 cell : ∀ j, j < 3 → w.cell? ⟨R, j, none⟩ = some (.int .u8 ((l.getD j 0).toNat : Int))
 free : ∀ j, j < 3 → w.frozen? ⟨R, j, none⟩ = false
theorem Row3.keep {w w' : World} {R : Nat} {l : List UInt8} (h : Row3 w R l) (e : w'.heap[R]? = w.heap[R]?) (hs : w.heap.size ≤ w'.heap.size) : Row3 w' R l :=
 ⟨Nat.lt_of_lt_of_le h.lt hs, fun j hj => by have := h.cell j hj; unfold World.cell? at *; rw [e]; exact this, fun j hj => by have := h.free j hj; unfold World.frozen? at *; rw [e]; exact this⟩
theorem row3_new (w : World) (e : TypeId) (a b c : UInt8) : Row3 (Lib.bytesWorld w e (ba [a, b, c])) w.heap.size [a, b, c] := by
 have h3 : (ba [a, b, c]).size = 3 := by rw [ba_size]; rfl
 refine ⟨by rw [Lib.bytesWorld_size]; omega, fun j hj => ?_, fun j hj => ?_⟩
 ·rw [Lib.bytesWorld_cell w e _ j (by rw [h3]; exact hj), ba_list]
 ·unfold World.frozen?
  rw [Lib.bytesWorld_at_new]
  have : j < (Lib.bytesCells w e (ba [a, b, c])).size := by
   unfold Lib.bytesCells
   rw [Array.size_append, Array.size_map]
   have : (ba [a, b, c]).data.size = 3 := h3
   omega
  simp
  omega
theorem Row3.put {w : World} {R : Nat} {l l' : List UInt8} (h : Row3 w R l) (i : Nat) (hi : i < 3) (c : UInt8) (x : Int) (hx : x = (c.toNat : Int)) (hl : ∀ j, j < 3 → l'.getD j 0 = if j = i then c else l.getD j 0) : Row3 (w.setCell ⟨R, i, none⟩ (.int .u8 x)) R l' := by
 refine ⟨by simpa [World.setCell] using h.lt, fun j hj => ?_, fun j hj => by rw [World.frozen?_setCell]; exact h.free j hj⟩
 rw [hl j hj]
 by_cases e : j = i
 ·subst e
  rw [if_pos rfl, hx, World.cell?_setCell_same _ _ _ (h.cell j hj)]
 ·rw [if_neg e, World.cell?_setCell_other _ _ _ _ (by intro h; simp only [Addr.mk.injEq] at h; omega)]
  exact h.cell j hj
theorem u8_32 (a : UInt8) : ((a.toNat : Int) + 32) % 256 = ((a + 32).toNat : Int) := by
 rw [UInt8.toNat_add]
 simp
theorem StyTo.set {w0 w w1 : World} {g : Nat} (h : StyTo w0 w g w1) {R : Nat} (hg : R ≠ g) (hR : w.heap.size ≤ R) (h0 : w0.heap.size ≤ R) (j : Nat) (v : Value) : StyTo w0 w g (w1.setCell ⟨R, j, none⟩ v) := by
 obtain ⟨⟨hB, L, i, hI, h1⟩, hk⟩ := h
 obtain ⟨A, c, hb, hgg, hr⟩ := hI
 exact ⟨⟨hB.setCell (p := ⟨R, j, none⟩) h0 v, L, i, ⟨A, c, (Below.heap_setCell w1 ⟨R, j, none⟩ v g (fun e => hg e.symm)).trans hb, hgg, hr⟩, h1⟩, by simpa [World.setCell] using hk.1, fun b hb hbg hr => (Below.heap_setCell w1 ⟨R, j, none⟩ v b (fun e => by have : b = R := e; omega)).trans (hk.2 b hb hbg hr)⟩
theorem valT_mix (k v : Nat) (h : inK k v) (hn : nameL k v ≠ []) (a b c : Bool) : ValT k v (mixL (nameL k v) [a, b, c]) := by
 by_cases h4 : k = 4
 ·subst h4
  exact valT_months v (h.2.1 rfl).1 (h.2.1 rfl).2 a b c
 ·by_cases h5 : k = 5
  ·subst h5
   exact valT_dow v (h.2.2 rfl) a b c
  ·unfold nameL at hn
   rw [if_neg h4, if_neg h5] at hn
   exact absurd rfl hn
set_option maxRecDepth 100000 in
theorem valueText_any {w0 w : World} {g : Nat} (hs : Sty w0 w g) (k v : Nat) (h : inK k v) :
  Calls Tryz.prog 204 #[.int .i64 k, .int .i64 v, .pointer (some ⟨g, 0, none⟩)] w fun e w' => ∃ l, ValT k v l ∧ l.length ≤ 11 ∧ e = .returned (.string (ba l)) ∧ StyTo w0 w g w' := by
 have HP := Lib.hid (fun n hn w' (h : Sty w0 w' g) => pick_any h n hn)
 have HI := Lib.hid (fun w' => itoaS_any v (by unfold inK at h; omega) w')
 have HN := Lib.hid (fun w' => cronName_any k v h w')
 have HS := Lib.hid hs
 clear hs
 go_enter Tryz.func204, Tryz.ntmps204
 go_wp2_with fail
 refine (HN.out _).mono ?_
 rintro e w1 ⟨rfl, hb1⟩
 have HST1 := Lib.hid (HS.out.below hb1)
 have hv : v < 100 := by unfold inK at h; omega
 have hdl : (ba (dig v)).size ≤ 2 := by rw [ba_size]; exact dig_len v
 clear hb1
 by_cases hn : nameL k v = []
 ·have HSTX := HST1
  have hne : (ba (nameL k v)).toList.isEmpty = true := by rw [toList_data, ba_list, hn]; rfl
  clear hn
  generalize nameL k v = nm at *
  go_wp2_with fail
  go_loopw [10] (fun v10 wr => ∃ z : Nat, v10 = .string (zerosB z) ∧ z ≤ 9 ∧ StyTo w0 w g wr) (fun v10 _ => 9 - strN v10)
  case atStart => exact ⟨0, rfl, by omega, HSTX.out⟩
  case round =>
   obtain ⟨z, rfl, hz, hst⟩ := hrel
   have hsz := zerosB_size z
   have HST := Lib.hid hst
   clear hst HSTX
   go_wp2_with fail
   refine (HP.out 8 (by omega) _ HST.out.1).mono ?_
   rintro e w3 ⟨r3, hr3, rfl, hst3⟩
   have HST3 := Lib.hid (HST.out.trans hst3)
   clear hst3 HST
   have hr8 : (r3 : Int) < 8 := by omega
   by_cases h7 : r3 = 7
   ·subst h7
    by_cases h9 : z < 9
    ·have hd : decide ((z : Int) < 9) = true := decide_eq_true (by omega)
     have hz1 := zerosB_succ z
     go_wp2_with fail
     go_roundw
     case rel => exact ⟨z + 1, by rw [← hz1], by omega, HST3.out⟩
     case measure => simp [strN, zerosB_size]; omega
    ·have hd : decide ((z : Int) < 9) = false := decide_eq_false (by omega)
     go_wp2_with fail
     refine (HI.out _).mono ?_
     rintro e w4 ⟨rfl, rfl⟩
     go_wp2_with fail
     go_ret
     exact ⟨_, valT_num k v z hv hz, num_len v z hz, by show Ending.returned (Value.string (zerosB z ++ ba (dig v))) = _; rw [zerosB_dig], HST3.out⟩
   ·have hd : ((r3 : Int) == 7) = false := by simp; omega
    go_wp2_with fail
    refine (HI.out _).mono ?_
    rintro e w4 ⟨rfl, rfl⟩
    go_wp2_with fail
    go_ret
    exact ⟨_, valT_num k v z hv hz, num_len v z hz, by show Ending.returned (Value.string (zerosB z ++ ba (dig v))) = _; rw [zerosB_dig], HST3.out⟩
 ·have HNM := Lib.hid hn
  have hne : (ba (nameL k v)).toList.isEmpty = false := by rw [toList_data, ba_list]; simpa using hn
  have hne2 : ((ba (nameL k v)).toList == []) = false := by rw [toList_data, ba_list]; simpa using hn
  have hne3 : ((ba (nameL k v)).toList != []) = true := by rw [toList_data, ba_list]; simpa using hn
  clear hn
  generalize hnm : nameL k v = nm at *
  have HNE := Lib.hid hnm
  clear hnm
  go_wp2_with fail
  refine (HP.out 2 (by omega) _ HST1.out.1).mono ?_
  rintro e w2 ⟨r2, hr2, rfl, hst2⟩
  have HST2 := Lib.hid (HST1.out.trans hst2)
  clear hst2 HST1
  by_cases h1 : r2 = 1
  ·subst h1
   obtain ⟨a0, a1, a2, rfl⟩ : ∃ a0 a1 a2, nm = [a0, a1, a2] := by
    have h3 := nameL_len k v h (by rw [HNE.out]; exact HNM.out)
    rw [HNE.out] at h3
    match nm, h3 with
    | [x, y, z], _ => exact ⟨x, y, z, rfl⟩
   have hcv := Lib.run_convert_string_bytes (P := Tryz.prog) w2 9 86 5 (ba [a0, a1, a2]) Tryz.underlying9 Tryz.underlying86 Tryz.underlying5
   have hrow := row3_new w2 5 a0 a1 a2
   have hbw : Below w2.heap.size w2 (Lib.bytesWorld w2 5 (ba [a0, a1, a2])) := Lib.bytesWorld_below _ _ _
   rw [show (ba [a0, a1, a2]).size = 3 by rw [ba_size]; rfl] at hcv
   have HST2b := Lib.hid (HST2.out.below hbw)
   have hRg : w2.heap.size ≠ g := by have := HST2.out.1.lt.2; omega
   have hRw : w.heap.size ≤ w2.heap.size := HST2.out.2.1
   have hR0 : w0.heap.size ≤ w2.heap.size := HST2.out.1.1.size
   generalize grownCap w2 3 0 5 = cap at hcv
   generalize Lib.bytesWorld w2 5 (ba [a0, a1, a2]) = wb at hcv hrow hbw HST2b
   have HROW := Lib.hid hrow
   clear hrow hbw
   go_wp2_with fail
   clear hcv
   generalize w2.heap.size = R at *
   clear HST2
   go_loopw [25] (fun v25 wr => ∃ (i : Nat) (p q r : Bool), v25 = .int .i64 i ∧ i ≤ 3 ∧ (i ≤ 0 → p = false) ∧ (i ≤ 1 → q = false) ∧ (i ≤ 2 → r = false) ∧ Hid (Row3 wr R (mixL [a0, a1, a2] [p, q, r])) ∧ StyTo w0 w g wr) (fun v25 _ => 3 - (intOf v25).toNat)
   case atStart => exact ⟨0, false, false, false, rfl, by omega, fun _ => rfl, fun _ => rfl, fun _ => rfl, HROW, HST2b.out⟩
   case round =>
    obtain ⟨i, p, q, r, rfl, hi, h0, h1, h2, HR, hst⟩ := hrel
    have HST := Lib.hid hst
    clear hst HROW HST2b
    by_cases hi3 : i = 3
    ·subst hi3
     have hcb := run_convert_bytes_back (P := Tryz.prog) wr 86 9 5 ⟨R, 0, none⟩ cap (mixL [a0, a1, a2] [p, q, r]) Tryz.underlying86 Tryz.underlying5 Tryz.underlying9 (by
      intro j hj
      have hj3 : j < 3 := hj
      have := HR.out.cell j hj3
      rw [List.getD_eq_getElem?_getD, List.getElem?_eq_getElem hj] at this
      rcases j with _ | j <;> simpa [Addr.add] using this)
     have hVT := valT_mix k v h (by rw [HNE.out]; exact HNM.out) p q r
     rw [HNE.out] at hVT
     have HVT := Lib.hid hVT
     have hl3 : (mixL [a0, a1, a2] [p, q, r]).length = 3 := rfl
     rw [hl3] at hcb
     clear hVT h0 h1 h2 HR
     generalize mixL [a0, a1, a2] [p, q, r] = lm at *
     go_wp2_with fail
     go_ret
     exact ⟨lm, HVT.out, by omega, rfl, HST.out⟩
    ·obtain hi0 | hi0 | hi0 : i = 0 ∨ i = 1 ∨ i = 2 := by omega
     ·subst hi0
      have hz0 : p = false := h0 (by omega)
      subst hz0
      have hz1 : q = false := h1 (by omega)
      subst hz1
      have hz2 : r = false := h2 (by omega)
      subst hz2
      have hc := HR.out.cell 0 (by omega)
      have hfz := HR.out.free 0 (by omega)
      clear h0 h1 h2
      go_wp2_with fail
      refine (HP.out 2 (by omega) _ HST.out.1).mono ?_
      rintro e w4 ⟨r4, hr4, rfl, hst4⟩
      have HST4 := Lib.hid (HST.out.trans hst4)
      have HR4 := Lib.hid (HR.out.keep (hst4.2.2 _ HR.out.lt hRg (by simp)) hst4.2.1)
      have hc := HR4.out.cell 0 (by omega)
      have hfz := HR4.out.free 0 (by omega)
      clear hst4 HST HR
      by_cases h5 : r4 = 1
      ·subst h5
       go_wp2_with fail
       go_roundw
       case rel => exact ⟨1, true, false, false, by go_num, by omega, fun h => by omega, fun _ => rfl, fun _ => rfl, Lib.hid (HR4.out.put 0 (by omega) (a0 + 32) _ (u8_32 a0) (by intro j hj; obtain rfl | rfl | rfl : j = 0 ∨ j = 1 ∨ j = 2 := (by omega) <;> rfl)), HST4.out.set hRg hRw hR0 _ _⟩
       case measure => simp [intOf]
      ·have hd5 : ((r4 : Int) == 1) = false := by simp; omega
       go_wp2_with fail
       go_roundw
       case rel => exact ⟨1, false, false, false, by go_num, by omega, fun h => by omega, fun _ => rfl, fun _ => rfl, HR4, HST4.out⟩
       case measure => simp [intOf]
     ·subst hi0
      have hz1 : q = false := h1 (by omega)
      subst hz1
      have hz2 : r = false := h2 (by omega)
      subst hz2
      have hc := HR.out.cell 1 (by omega)
      have hfz := HR.out.free 1 (by omega)
      clear h0 h1 h2
      go_wp2_with fail
      refine (HP.out 2 (by omega) _ HST.out.1).mono ?_
      rintro e w4 ⟨r4, hr4, rfl, hst4⟩
      have HST4 := Lib.hid (HST.out.trans hst4)
      have HR4 := Lib.hid (HR.out.keep (hst4.2.2 _ HR.out.lt hRg (by simp)) hst4.2.1)
      have hc := HR4.out.cell 1 (by omega)
      have hfz := HR4.out.free 1 (by omega)
      clear hst4 HST HR
      by_cases h5 : r4 = 1
      ·subst h5
       go_wp2_with fail
       go_roundw
       case rel => exact ⟨2, p, true, false, by go_num, by omega, fun h => by omega, fun h => by omega, fun _ => rfl, Lib.hid (HR4.out.put 1 (by omega) (a1 + 32) _ (u8_32 a1) (by intro j hj; obtain rfl | rfl | rfl : j = 0 ∨ j = 1 ∨ j = 2 := (by omega) <;> rfl)), HST4.out.set hRg hRw hR0 _ _⟩
       case measure => simp [intOf]
      ·have hd5 : ((r4 : Int) == 1) = false := by simp; omega
       go_wp2_with fail
       go_roundw
       case rel => exact ⟨2, p, false, false, by go_num, by omega, fun h => by omega, fun h => by omega, fun _ => rfl, HR4, HST4.out⟩
       case measure => simp [intOf]
     ·subst hi0
      have hz2 : r = false := h2 (by omega)
      subst hz2
      have hc := HR.out.cell 2 (by omega)
      have hfz := HR.out.free 2 (by omega)
      clear h0 h1 h2
      go_wp2_with fail
      refine (HP.out 2 (by omega) _ HST.out.1).mono ?_
      rintro e w4 ⟨r4, hr4, rfl, hst4⟩
      have HST4 := Lib.hid (HST.out.trans hst4)
      have HR4 := Lib.hid (HR.out.keep (hst4.2.2 _ HR.out.lt hRg (by simp)) hst4.2.1)
      have hc := HR4.out.cell 2 (by omega)
      have hfz := HR4.out.free 2 (by omega)
      clear hst4 HST HR
      by_cases h5 : r4 = 1
      ·subst h5
       go_wp2_with fail
       go_roundw
       case rel => exact ⟨3, p, q, true, by go_num, by omega, fun h => by omega, fun h => by omega, fun h => by omega, Lib.hid (HR4.out.put 2 (by omega) (a2 + 32) _ (u8_32 a2) (by intro j hj; obtain rfl | rfl | rfl : j = 0 ∨ j = 1 ∨ j = 2 := (by omega) <;> rfl)), HST4.out.set hRg hRw hR0 _ _⟩
       case measure => simp [intOf]
      ·have hd5 : ((r4 : Int) == 1) = false := by simp; omega
       go_wp2_with fail
       go_roundw
       case rel => exact ⟨3, p, q, false, by go_num, by omega, fun h => by omega, fun h => by omega, fun h => by omega, HR4, HST4.out⟩
       case measure => simp [intOf]
  ·have hd1 : ((r2 : Int) == 1) = false := by simp; omega
   have HSTX := HST2
   go_wp2_with fail
   go_loopw [10] (fun v10 wr => ∃ z : Nat, v10 = .string (zerosB z) ∧ z ≤ 9 ∧ StyTo w0 w g wr) (fun v10 _ => 9 - strN v10)
   case atStart => exact ⟨0, rfl, by omega, HSTX.out⟩
   case round =>
    obtain ⟨z, rfl, hz, hst⟩ := hrel
    have hsz := zerosB_size z
    have HST := Lib.hid hst
    clear hst HSTX
    go_wp2_with fail
    refine (HP.out 8 (by omega) _ HST.out.1).mono ?_
    rintro e w3 ⟨r3, hr3, rfl, hst3⟩
    have HST3 := Lib.hid (HST.out.trans hst3)
    clear hst3 HST
    have hr8 : (r3 : Int) < 8 := by omega
    by_cases h7 : r3 = 7
    ·subst h7
     by_cases h9 : z < 9
     ·have hd : decide ((z : Int) < 9) = true := decide_eq_true (by omega)
      have hz1 := zerosB_succ z
      go_wp2_with fail
      go_roundw
      case rel => exact ⟨z + 1, by rw [← hz1], by omega, HST3.out⟩
      case measure => simp [strN, zerosB_size]; omega
     ·have hd : decide ((z : Int) < 9) = false := decide_eq_false (by omega)
      go_wp2_with fail
      refine (HI.out _).mono ?_
      rintro e w4 ⟨rfl, rfl⟩
      go_wp2_with fail
      go_ret
      exact ⟨_, valT_num k v z hv hz, num_len v z hz, by show Ending.returned (Value.string (zerosB z ++ ba (dig v))) = _; rw [zerosB_dig], HST3.out⟩
    ·have hd : ((r3 : Int) == 7) = false := by simp; omega
     go_wp2_with fail
     refine (HI.out _).mono ?_
     rintro e w4 ⟨rfl, rfl⟩
     go_wp2_with fail
     go_ret
     exact ⟨_, valT_num k v z hv hz, num_len v z hz, by show Ending.returned (Value.string (zerosB z ++ ba (dig v))) = _; rw [zerosB_dig], HST3.out⟩
end Go.Proofs.YtmecbmgfacpecaaGreatDoor.Cron
namespace Go.Proofs.YtmecbmgfacpecaaGreatDoor.Cron
open Go Go.RowKit Go.Proofs.YtmecbmgfacpecaaGreatDoor.Text Go.Proofs.YtmecbmgfacpecaaGreatDoor.Bits Go.Proofs.YtmecbmgfacpecaaGreatDoorW.PrintWords Go.Proofs.YtmecbmgfacpecaaGreatDoorW.PrintLast Go.Proofs.YtmecbmgfacpecaaGreatDoorW.PrintMore Go.Proofs.YtmecbmgfacpecaaGreatDoor.Pr Go.Proofs.YtmecbmgfacpecaaGreatDoor.CronN
set_option linter.unusedVariables false
set_option linter.unusedSimpArgs false
theorem count_le {v s hi n : Nat} {p : Nat → Bool} (hs : 1 ≤ s) (hh : hi ≤ 59) (h : ∀ j, j < n → v + j * s ≤ hi ∧ p (v + j * s) = true) : n ≤ 60 := by
 match n, h with
 | 0, _ => omega
 | m + 1, h =>
  have h1 := (h m (by omega)).1
  have h2 : m ≤ m * s := Nat.le_mul_of_pos_right m hs
  omega
set_option maxRecDepth 100000 in
theorem cronRun_any (st : Bool) (p : Nat → Bool) (v s hi : Nat) (hs : 1 ≤ s) (hs2 : s ≤ 12) (hh : hi ≤ 59) (hv : v ≤ 59) (w : World) :
  Calls Tryz.prog 203 #[.agg (setCells st p), .int .i64 v, .int .i64 s, .int .i64 hi] w fun e w' => ∃ n : Nat, n ≤ 60 ∧ e = .returned (.int .i64 n) ∧ (∀ j, j < n → v + j * s ≤ hi ∧ p (v + j * s) = true) ∧ Below w.heap.size w w' := by
 have hbx := run_box_set st p
 have HS := Lib.hid (isSet_new w st p)
 have hb0 : Below w.heap.size w (w.alloc (.cells (setCells st p) 56)) := (Below.refl _ _).alloc (Nat.le_refl _) _
 go_enter Tryz.func203, Tryz.ntmps203
 go_wp2_with fail
 go_loopw [9, 10] (fun v9 v10 wr => ∃ n x : Nat, v9 = .int .i64 n ∧ v10 = .int .i64 x ∧ x = v + n * s ∧ x ≤ 71 ∧ (∀ j, j < n → v + j * s ≤ hi ∧ p (v + j * s) = true) ∧ Hid (IsSet wr w.heap.size st p) ∧ Below w.heap.size w wr) (fun _ v10 _ => 72 - (intOf v10).toNat)
 case atStart => exact ⟨0, v, rfl, rfl, by omega, by omega, (fun j hj => by omega), HS, hb0⟩
 case round =>
  obtain ⟨n, x, rfl, rfl, hx, hx71, hp, HR, hbr⟩ := hrel
  have HP := Lib.hid hp
  have HX := Lib.hid hx
  have hn60 : n ≤ 71 := by
   have : n ≤ n * s := Nat.le_mul_of_pos_right n hs
   omega
  clear hp HS hb0 hx
  by_cases hle : x ≤ hi
  ·have hd : decide ((x : Int) ≤ hi) = true := decide_eq_true (by omega)
   have hx63 : (x : Int) < 63 := by omega
   have hx0 : (0 : Int) ≤ x := by omega
   have hc := HR.out.cellAt x (by omega)
   have hfz := HR.out.free (x + 1)
   have hc' : wr.cell? ⟨w.heap.size, 1 + x, none⟩ = some (.bool (p x)) := by rw [Nat.add_comm 1 x]; exact hc
   have hfz' : wr.frozen? ⟨w.heap.size, 1 + x, none⟩ = false := by rw [Nat.add_comm 1 x]; exact hfz
   obtain ⟨b, hb⟩ : ∃ b, p x = b := ⟨_, rfl⟩
   have HBX := Lib.hid hb
   rw [hb] at hc hc'
   clear hb
   cases b with
   | true =>
    go_wp2_with fail
    go_roundw
    case rel =>
     refine ⟨n + 1, x + s, by go_num, by go_num, by rw [HX.out, Nat.succ_mul]; omega, by omega, ?_, HR, hbr⟩
     intro j hj
     by_cases e : j < n
     ·exact HP.out j e
     ·obtain rfl : j = n := by omega
      rw [← HX.out]
      exact ⟨hle, HBX.out⟩
    case measure => simp [intOf]; omega
   | false =>
    go_wp2_with fail
    go_ret
    exact ⟨n, count_le hs hh HP.out, rfl, HP.out, hbr⟩
  ·have hd : decide ((x : Int) ≤ hi) = false := decide_eq_false (by omega)
   go_wp2_with fail
   go_ret
   exact ⟨n, count_le hs hh HP.out, rfl, HP.out, hbr⟩
-- ITEMWALK
def ItemAns (w0 w : World) (g k v : Nat) (p : Nat → Bool) (e : Ending) (w' : World) : Prop :=
 ∃ (l : List UInt8) (last st : Nat), ItemT k (loK k) (hiK k) (steps v last st) l ∧ l.length ≤ 40 ∧ v ≤ last ∧ last ≤ hiK k ∧ 1 ≤ st ∧ st ≤ 12 ∧ (∀ t, v + t * st ≤ last → p (v + t * st) = true) ∧
  e = .returned (.tuple #[.string (ba l), .int .i64 last, .int .i64 st]) ∧ StyTo w0 w g w'
theorem last_wrap (v m5 r5 s : Nat) (h : m5 = r5 * s) (hb : v + m5 ≤ 1000) : wrap64 ((v : Int) + wrap64 ((1 + (r5 : Int) - 1) * (s : Int))) = ((v + m5 : Nat) : Int) := by
 rw [show (1 : Int) + (r5 : Int) - 1 = r5 by omega, show (r5 : Int) * (s : Int) = (m5 : Int) by rw [h]; push_cast; rfl]
 unfold wrap64
 omega
theorem min_nat (s hi L : Nat) (h : L ≤ hi) : min (s : Int) ((hi : Int) - L + 1) = ((min s (hi - L + 1) : Nat) : Int) := by omega
theorem last_wrap2 (v m5 r5 s n0 : Nat) (hn : n0 = r5 + 1) (h : m5 = r5 * s) (hb : v + m5 ≤ 1000) : wrap64 ((v : Int) + wrap64 (((n0 : Int) - 1) * (s : Int))) = ((v + m5 : Nat) : Int) := by
 have := last_wrap v m5 r5 s h hb
 rwa [show (1 : Int) + (r5 : Int) - 1 = (n0 : Int) - 1 by omega] at this
theorem steps_end {v L r s hi : Nat} (hs : 1 ≤ s) (hL : L = v + r * s) (h1 : L ≤ hi) (h2 : hi < L + s) : steps v hi s = steps v L s := by
 refine steps_last fun j hv hm => ⟨fun h => ?_, fun h => by omega⟩
 obtain ⟨q, hq⟩ := Nat.dvd_of_mod_eq_zero hm
 have h3 : q * s < (r + 1) * s := by rw [Nat.succ_mul, Nat.mul_comm q s]; omega
 have h4 : q < r + 1 := Nat.lt_of_mul_lt_mul_right h3
 have h5 : s * q ≤ r * s := by rw [Nat.mul_comm]; exact Nat.mul_le_mul_right s (by omega)
 omega
theorem item_low {k v s hi : Nat} {n : List UInt8} (hv : v = loK k) (hn : NumT s n) (hs : 1 < s) (h : v ≤ hi) : ItemT k (loK k) hi (steps v hi s) ([42] ++ 47 :: n) := by
 have := item_star_by (k := k) (lo := loK k) (hi := hi) 42 (.inl rfl) hn (by omega) (by omega)
 rw [if_neg (by omega), Nat.or_zero] at this
 rw [hv]
 exact this
theorem sub_run {v s hi n r L L2 : Nat} {p : Nat → Bool} (h : ∀ j, j < n → v + j * s ≤ hi ∧ p (v + j * s) = true) (hr : r < n) (hL : L = v + r * s) (h2 : L2 < L + s) : ∀ t, v + t * s ≤ L2 → p (v + t * s) = true := by
 intro t ht
 have h3 : t * s < (r + 1) * s := by rw [Nat.succ_mul]; omega
 have h4 : t < r + 1 := Nat.lt_of_mul_lt_mul_right h3
 exact (h t (by omega)).2
theorem inK_of {k v : Nat} (hk : k < 6) (h1 : loK k ≤ v) (h2 : v ≤ hiK k) : inK k v := by
 unfold inK
 unfold loK at h1
 unfold hiK at h2
 refine ⟨?_, ?_, ?_⟩
 ·revert h2; (repeat' split) <;> omega
 ·intro e; subst e; simp at h1 h2; omega
 ·intro e; subst e; simp at h2; omega
set_option maxRecDepth 100000 in
set_option maxHeartbeats 8000000 in
theorem itemText_any {w0 w : World} {g : Nat} (hs : Sty w0 w g) (k v : Nat) (hk : k < 6) (st : Bool) (p : Nat → Bool) (h1 : loK k ≤ v) (h2 : v ≤ hiK k) (hp : p v = true) :
  Calls Tryz.prog 168 #[.int .i64 k, .agg (setCells st p), .int .i64 v, .pointer (some ⟨g, 0, none⟩)] w (ItemAns w0 w g k v p) := by
 have hbx := run_box_set st p
 have HS0 := Lib.hid (isSet_new w st p)
 have HST0 := Lib.hid (hs.below ((Below.refl w.heap.size w).alloc (Nat.le_refl _) (.cells (setCells st p) 56)))
 have HP := Lib.hid (fun n hn w' (h : Sty w0 w' g) => pick_any h n hn)
 have HH := Lib.hid (fun w' => spec_CronHigh.calls k (hiK k : Nat) w' (high_f k))
 have HL := Lib.hid (fun w' => spec_CronLow.calls k (loK k : Nat) w' (low_f k))
 have HV := Lib.hid (fun v' h w' (h0 : Sty w0 w' g) => valueText_any h0 k v' h)
 have HN := Lib.hid (fun n hn w' (h0 : Sty w0 w' g) => numberText_any h0 n hn)
 have hh62 : hiK k ≤ 59 := by unfold hiK; (repeat' split) <;> omega
 have hgw := hs.lt.2
 have HR := Lib.hid (fun s hs1 hs2 w' => cronRun_any st p v s (hiK k) hs1 hs2 hh62 (by omega) w')
 have HK := Lib.hid (inK_of hk h1 h2)
 have HKL := Lib.hid (fun v' (a : loK k ≤ v') (b : v' ≤ hiK k) => inK_of hk a b)
 clear hs
 go_enter Tryz.func168, Tryz.ntmps168
 go_wp2_with fail
 refine (HH.out _).mono ?_
 rintro e w1 ⟨rfl, hd1⟩
 have HST1 := Lib.hid (HST0.out.below hd1.below)
 have HS1 := Lib.hid (HS0.out.below hd1.below)
 clear hd1 HST0 HS0
 go_wp2_with fail
 refine (HP.out 12 (by omega) _ HST1.out.1).mono ?_
 rintro e w2 ⟨r2, hr2, rfl, hst2⟩
 have HS2 := Lib.hid (show IsSet w2 w.heap.size st p from (hst2.2.2 _ HS1.out.lt (by omega) (by simp)).trans HS1.out)
 have HST2 := Lib.hid (HST1.out.trans hst2)
 obtain ⟨s, hsr, hs1, hs12⟩ : ∃ s : Nat, s = 1 + r2 ∧ 1 ≤ s ∧ s ≤ 12 := ⟨1 + r2, rfl, by omega, by omega⟩
 have HSR := Lib.hid hsr
 have hr12 : (r2 : Int) < 12 := by omega
 have hr0 : (0 : Int) ≤ r2 := by omega
 clear hst2 HST1 HS1 hsr
 go_wp2_with (refine wpList_load_set rfl _ rfl w.heap.size st p rfl HS2.out ?_)
 rw [show (1 : Int) + r2 = s by rw [HSR.out]; push_cast; rfl]
 refine (HR.out s hs1 hs12 _).mono ?_
 rintro e w3 ⟨n0, hn60, rfl, hrun, hb3⟩
 have HST3 := Lib.hid (HST2.out.below hb3)
 have HRUN := Lib.hid hrun
 clear hb3 HST2 HS2 hrun HR
 have hsl : (s : Int) ≤ 12 := by omega
 have hsg : (1 : Int) ≤ s := by omega
 have hnl : (n0 : Int) ≤ 60 := by omega
 clear hr2 hr12 hr0 HSR
 by_cases hn2 : n0 < 2
 ·have hd : decide ((n0 : Int) < 2) = true := decide_eq_true (by omega)
  go_wp2_with fail
  refine (HV.out v HK.out _ HST3.out.1).mono ?_
  rintro e w4 ⟨l, hl, hll, rfl, hst4⟩
  have HST4 := Lib.hid (HST3.out.trans hst4)
  clear hst4 HST3
  go_wp2_with fail
  exact bodyPost_ret (v := .tuple #[.string (ba l), .int .i64 v, .int .i64 1]) (by simp [results, Tryz.results168, go_sem]) rfl ⟨l, v, 1, item_val hl h1 h2, by omega, by omega, h2, by omega, by omega, fun t ht => by rw [show t = 0 by omega]; simpa using hp, rfl, HST4.out⟩
 ·obtain ⟨m, hm⟩ : ∃ m : Nat, m = n0 * s := ⟨_, rfl⟩
  have hmi : (n0 : Int) * (s : Int) = m := by rw [hm]; push_cast; rfl
  have hm720 : (m : Int) ≤ 720 := by
   have := Nat.mul_le_mul hn60 hs12
   omega
  have HM := Lib.hid hm
  have hdn : decide ((n0 : Int) < 2) = false := decide_eq_false (by omega)
  clear hm
  by_cases hte : hiK k < v + m
  ·have hd : decide ((hiK k : Int) < (v : Int) + m) = true := decide_eq_true (by omega)
   go_wp2_with fail
   refine (HP.out 4 (by omega) _ HST3.out.1).mono ?_
   rintro e w4 ⟨r4, hr4, rfl, hst4⟩
   have HST4 := Lib.hid (HST3.out.trans hst4)
   clear hst4 HST3
   by_cases hz : r4 = 0
   ·subst hz
    go_wp2_with fail
    refine (HP.out n0 (by omega) _ HST4.out.1).mono ?_
    rintro e w5 ⟨r5, hr5, rfl, hst5⟩
    have HST5 := Lib.hid (HST4.out.trans hst5)
    clear hst5 HST4
    obtain ⟨m5, hm5⟩ : ∃ m5 : Nat, m5 = r5 * s := ⟨_, rfl⟩
    have hlast := (HRUN.out r5 hr5).1
    rw [← hm5] at hlast
    have HM5 := Lib.hid hm5
    clear hm5 hmi
    go_wp2_with fail
    obtain ⟨L, hL⟩ : ∃ L : Nat, L = v + r5 * s := ⟨_, rfl⟩
    have hlw : wrap64 ((v : Int) + wrap64 ((1 + (r5 : Int) - 1) * (s : Int))) = (L : Int) := by
     rw [hL, ← HM5.out]
     exact last_wrap v m5 r5 s HM5.out (by omega)
    rw [hlw]
    have hLh : L ≤ hiK k := by rw [hL, ← HM5.out]; exact hlast
    have HLL := Lib.hid hL
    have hLv : v ≤ L := by rw [hL]; omega
    clear hlw hL hlast
    refine (HV.out v HK.out _ HST5.out.1).mono ?_
    rintro e w6 ⟨l1, hl1, hll1, rfl, hst6⟩
    have HST6 := Lib.hid (HST5.out.trans hst6)
    have hsz1 : (ba l1).size ≤ 11 := by rw [ba_size]; exact hll1
    clear hst6 HST5
    go_wp2_with fail
    refine (HN.out s (by omega) _ HST6.out.1).mono ?_
    rintro e w7 ⟨l2, hl2, hll2, rfl, hst7⟩
    have HST7 := Lib.hid (HST6.out.trans hst7)
    have hsz2 : (ba l2).size ≤ 11 := by rw [ba_size]; exact hll2
    clear hst7 HST6
    by_cases hs2 : 1 < s
    ·have hds : decide ((1 : Int) < s) = true := decide_eq_true (by omega)
     go_wp2_with fail
     rw [min_nat s (hiK k) L hLh]
     obtain ⟨M, hM, hMs, hMh, hM0⟩ : ∃ M : Nat, M = min s (hiK k - L + 1) ∧ M ≤ s ∧ M ≤ hiK k - L + 1 ∧ 0 < M := ⟨_, rfl, by omega, by omega, by omega⟩
     rw [← hM]
     clear hM
     refine (HP.out M hM0 _ HST7.out.1).mono ?_
     rintro e w8 ⟨r8, hr8, rfl, hst8⟩
     have HST8 := Lib.hid (HST7.out.trans hst8)
     clear hst8 HST7
     have hr8i : (r8 : Int) ≤ 12 := by omega
     go_wp2_with fail
     rw [show (L : Int) + r8 = ((L + r8 : Nat) : Int) by push_cast; rfl]
     obtain ⟨L2, hL2, hL2a, hL2b, hL2h⟩ : ∃ L2 : Nat, L2 = L + r8 ∧ L ≤ L2 ∧ L2 < L + s ∧ L2 ≤ hiK k := ⟨_, rfl, by omega, by omega, by omega⟩
     rw [← hL2]
     refine (HV.out L2 (HKL.out L2 (by omega) hL2h) _ HST8.out.1).mono ?_
     rintro e w9 ⟨l3, hl3, hll3, rfl, hst9⟩
     have HST9 := Lib.hid (HST8.out.trans hst9)
     have hsz3 : (ba l3).size ≤ 11 := by rw [ba_size]; exact hll3
     clear hst9 HST8 hL2
     go_wp2_with fail
     exact bodyPost_ret (v := .tuple #[.string ((ba l1 ++ ba [45] ++ ba l3) ++ (ba [47] ++ ba l2)), .int .i64 L2, .int .i64 s]) (by simp [results, Tryz.results168, go_sem]; rfl) rfl ⟨(l1 ++ 45 :: l3) ++ 47 :: l2, L2, s, item_range_by hl1 hl3 hl2 hs1 h1 (by omega) hL2h, by simp; omega, by omega, hL2h, hs1, hs12, sub_run HRUN.out hr5 HLL.out hL2b, by rw [ba_app, ba_app, ba_app, ba_app]; simp, HST9.out⟩
    ·have hds : decide ((1 : Int) < s) = false := decide_eq_false (by omega)
     obtain rfl : s = 1 := by omega
     go_wp2_with fail
     refine (HV.out L (HKL.out L (by omega) hLh) _ HST7.out.1).mono ?_
     rintro e w9 ⟨l3, hl3, hll3, rfl, hst9⟩
     have HST9 := Lib.hid (HST7.out.trans hst9)
     have hsz3 : (ba l3).size ≤ 11 := by rw [ba_size]; exact hll3
     clear hst9 HST7
     go_wp2_with fail
     refine (HP.out 4 (by omega) _ HST9.out.1).mono ?_
     rintro e wa ⟨ra, hra, rfl, hsta⟩
     have HSTa := Lib.hid (HST9.out.trans hsta)
     clear hsta HST9
     by_cases ha : ra = 1
     ·subst ha
      go_wp2_with fail
      exact bodyPost_ret (v := .tuple #[.string ((ba l1 ++ ba [45] ++ ba l3) ++ (ba [47] ++ ba l2)), .int .i64 L, .int .i64 1]) (by simp [results, Tryz.results168, go_sem]; rfl) rfl ⟨(l1 ++ 45 :: l3) ++ 47 :: l2, L, 1, item_range_by hl1 hl3 hl2 (by omega) h1 (by omega) hLh, by simp; omega, by omega, hLh, by omega, by omega, sub_run HRUN.out hr5 HLL.out (by omega), by rw [ba_app, ba_app, ba_app, ba_app]; simp, HSTa.out⟩
     ·have hda : ((ra : Int) == 1) = false := by simp; omega
      go_wp2_with fail
      exact bodyPost_ret (v := .tuple #[.string (ba l1 ++ ba [45] ++ ba l3), .int .i64 L, .int .i64 1]) (by simp [results, Tryz.results168, go_sem]; rfl) rfl ⟨l1 ++ 45 :: l3, L, 1, item_range hl1 hl3 h1 (by omega) hLh, by simp; omega, by omega, hLh, by omega, by omega, sub_run HRUN.out hr5 HLL.out (by omega), by rw [ba_app, ba_app]; simp, HSTa.out⟩
   ·skip
    have hz4 : ((r4 : Int) == 0) = false := by simp; omega
    obtain ⟨r5, hn5⟩ : ∃ r5 : Nat, n0 = r5 + 1 := ⟨n0 - 1, by omega⟩
    have hr5 : r5 < n0 := by omega
    have HN5 := Lib.hid hn5
    have HST5 := HST4
    have hend0 : hiK k < v + r5 * s + s := by
     have h3 := HM.out
     rw [HN5.out, Nat.succ_mul] at h3
     omega
    have HEND := Lib.hid hend0
    clear hn5 hend0
    obtain ⟨m5, hm5⟩ : ∃ m5 : Nat, m5 = r5 * s := ⟨_, rfl⟩
    have hlast := (HRUN.out r5 hr5).1
    rw [← hm5] at hlast
    have HM5 := Lib.hid hm5
    clear hm5 hmi
    go_wp2_with fail
    obtain ⟨L, hL⟩ : ∃ L : Nat, L = v + r5 * s := ⟨_, rfl⟩
    have hlw : wrap64 ((v : Int) + wrap64 (((n0 : Int) - 1) * (s : Int))) = (L : Int) := by
     rw [hL, ← HM5.out]
     exact last_wrap2 v m5 r5 s n0 HN5.out HM5.out (by omega)
    rw [hlw]
    have hLh : L ≤ hiK k := by rw [hL, ← HM5.out]; exact hlast
    have HLL := Lib.hid hL
    have hLv : v ≤ L := by rw [hL]; omega
    clear hlw hL hlast
    refine (HV.out v HK.out _ HST5.out.1).mono ?_
    rintro e w6 ⟨l1, hl1, hll1, rfl, hst6⟩
    have HST6 := Lib.hid (HST5.out.trans hst6)
    have hsz1 : (ba l1).size ≤ 11 := by rw [ba_size]; exact hll1
    clear hst6 HST5
    go_wp2_with fail
    refine (HN.out s (by omega) _ HST6.out.1).mono ?_
    rintro e w7 ⟨l2, hl2, hll2, rfl, hst7⟩
    have HST7 := Lib.hid (HST6.out.trans hst7)
    have hsz2 : (ba l2).size ≤ 11 := by rw [ba_size]; exact hll2
    clear hst7 HST6
    have HSTEPS := Lib.hid (steps_end hs1 HLL.out hLh (by rw [HLL.out]; exact HEND.out))
    by_cases hvl : v = loK k
    ·have hdv : ((v : Int) == (loK k : Int)) = true := by simp; omega
     have HVL := Lib.hid hvl
     clear hvl
     go_wp2_with fail
     refine (HL.out _).mono ?_
     rintro e w8 ⟨rfl, hd8⟩
     have HST8 := Lib.hid (HST7.out.below hd8.below)
     clear hd8 HST7
     by_cases hs3 : 1 < s
     ·have hds3 : decide ((1 : Int) < s) = true := decide_eq_true (by omega)
      go_wp2_with fail
      refine (HP.out 2 (by omega) _ HST8.out.1).mono ?_
      rintro e wq ⟨rq, hrq, rfl, hstq⟩
      have HSTq := Lib.hid (HST8.out.trans hstq)
      clear hstq HST8
      by_cases hq0 : rq = 0
      ·subst hq0
       go_wp2_with fail
       exact bodyPost_ret (v := .tuple #[.string (ba [42] ++ (ba [47] ++ ba l2)), .int .i64 L, .int .i64 s]) (by simp [results, Tryz.results168, go_sem]; rfl) rfl ⟨[42] ++ 47 :: l2, L, s, by rw [← HSTEPS.out]; exact item_low HVL.out hl2 hs3 (by omega), by simp; omega, by omega, hLh, hs1, hs12, sub_run HRUN.out hr5 HLL.out (by omega), by rw [ba_app, ba_app]; simp, HSTq.out⟩
      ·have hdq : ((rq : Int) == 0) = false := by simp; omega
       have HST8 := HSTq
       go_wp2_with fail
       refine (HP.out 2 (by omega) _ HST8.out.1).mono ?_
       rintro e wp ⟨rp, hrp, rfl, hstp⟩
       have HSTp := Lib.hid (HST8.out.trans hstp)
       clear hstp HST8
       by_cases hp0 : rp = 0
       ·subst hp0
        go_wp2_with fail
        exact bodyPost_ret (v := .tuple #[.string (ba l1 ++ (ba [47] ++ ba l2)), .int .i64 L, .int .i64 s]) (by simp [results, Tryz.results168, go_sem]; rfl) rfl ⟨l1 ++ 47 :: l2, L, s, by rw [← HSTEPS.out]; exact item_by hl1 hl2 hs1 h1 h2, by simp; omega, by omega, hLh, hs1, hs12, sub_run HRUN.out hr5 HLL.out (by omega), by rw [ba_app, ba_app]; simp, HSTp.out⟩
       ·have hdp : ((rp : Int) == 0) = false := by simp; omega
        have HST7 := HSTp
        have hs2 := hs3
        have hds : decide ((1 : Int) < s) = true := decide_eq_true (by omega)
        go_wp2_with fail
        rw [min_nat s (hiK k) L hLh]
        obtain ⟨M, hM, hMs, hMh, hM0⟩ : ∃ M : Nat, M = min s (hiK k - L + 1) ∧ M ≤ s ∧ M ≤ hiK k - L + 1 ∧ 0 < M := ⟨_, rfl, by omega, by omega, by omega⟩
        rw [← hM]
        clear hM
        refine (HP.out M hM0 _ HST7.out.1).mono ?_
        rintro e w8 ⟨r8, hr8, rfl, hst8⟩
        have HST8 := Lib.hid (HST7.out.trans hst8)
        clear hst8 HST7
        have hr8i : (r8 : Int) ≤ 12 := by omega
        go_wp2_with fail
        rw [show (L : Int) + r8 = ((L + r8 : Nat) : Int) by push_cast; rfl]
        obtain ⟨L2, hL2, hL2a, hL2b, hL2h⟩ : ∃ L2 : Nat, L2 = L + r8 ∧ L ≤ L2 ∧ L2 < L + s ∧ L2 ≤ hiK k := ⟨_, rfl, by omega, by omega, by omega⟩
        rw [← hL2]
        refine (HV.out L2 (HKL.out L2 (by omega) hL2h) _ HST8.out.1).mono ?_
        rintro e w9 ⟨l3, hl3, hll3, rfl, hst9⟩
        have HST9 := Lib.hid (HST8.out.trans hst9)
        have hsz3 : (ba l3).size ≤ 11 := by rw [ba_size]; exact hll3
        clear hst9 HST8 hL2
        go_wp2_with fail
        exact bodyPost_ret (v := .tuple #[.string ((ba l1 ++ ba [45] ++ ba l3) ++ (ba [47] ++ ba l2)), .int .i64 L2, .int .i64 s]) (by simp [results, Tryz.results168, go_sem]; rfl) rfl ⟨(l1 ++ 45 :: l3) ++ 47 :: l2, L2, s, item_range_by hl1 hl3 hl2 hs1 h1 (by omega) hL2h, by simp; omega, by omega, hL2h, hs1, hs12, sub_run HRUN.out hr5 HLL.out hL2b, by rw [ba_app, ba_app, ba_app, ba_app]; simp, HST9.out⟩
     ·have hds3 : decide ((1 : Int) < s) = false := decide_eq_false (by omega)
      go_wp2_with fail
      refine (HP.out 2 (by omega) _ HST8.out.1).mono ?_
      rintro e wp ⟨rp, hrp, rfl, hstp⟩
      have HSTp := Lib.hid (HST8.out.trans hstp)
      clear hstp HST8
      by_cases hp0 : rp = 0
      ·subst hp0
       go_wp2_with fail
       exact bodyPost_ret (v := .tuple #[.string (ba l1 ++ (ba [47] ++ ba l2)), .int .i64 L, .int .i64 s]) (by simp [results, Tryz.results168, go_sem]; rfl) rfl ⟨l1 ++ 47 :: l2, L, s, by rw [← HSTEPS.out]; exact item_by hl1 hl2 hs1 h1 h2, by simp; omega, by omega, hLh, hs1, hs12, sub_run HRUN.out hr5 HLL.out (by omega), by rw [ba_app, ba_app]; simp, HSTp.out⟩
      ·have hdp : ((rp : Int) == 0) = false := by simp; omega
       have HST7 := HSTp
       have hs2 := hs3
       have hds : decide ((1 : Int) < s) = false := decide_eq_false (by omega)
       obtain rfl : s = 1 := by omega
       go_wp2_with fail
       refine (HV.out L (HKL.out L (by omega) hLh) _ HST7.out.1).mono ?_
       rintro e w9 ⟨l3, hl3, hll3, rfl, hst9⟩
       have HST9 := Lib.hid (HST7.out.trans hst9)
       have hsz3 : (ba l3).size ≤ 11 := by rw [ba_size]; exact hll3
       clear hst9 HST7
       go_wp2_with fail
       refine (HP.out 4 (by omega) _ HST9.out.1).mono ?_
       rintro e wa ⟨ra, hra, rfl, hsta⟩
       have HSTa := Lib.hid (HST9.out.trans hsta)
       clear hsta HST9
       by_cases ha : ra = 1
       ·subst ha
        go_wp2_with fail
        exact bodyPost_ret (v := .tuple #[.string ((ba l1 ++ ba [45] ++ ba l3) ++ (ba [47] ++ ba l2)), .int .i64 L, .int .i64 1]) (by simp [results, Tryz.results168, go_sem]; rfl) rfl ⟨(l1 ++ 45 :: l3) ++ 47 :: l2, L, 1, item_range_by hl1 hl3 hl2 (by omega) h1 (by omega) hLh, by simp; omega, by omega, hLh, by omega, by omega, sub_run HRUN.out hr5 HLL.out (by omega), by rw [ba_app, ba_app, ba_app, ba_app]; simp, HSTa.out⟩
       ·have hda : ((ra : Int) == 1) = false := by simp; omega
        go_wp2_with fail
        exact bodyPost_ret (v := .tuple #[.string (ba l1 ++ ba [45] ++ ba l3), .int .i64 L, .int .i64 1]) (by simp [results, Tryz.results168, go_sem]; rfl) rfl ⟨l1 ++ 45 :: l3, L, 1, item_range hl1 hl3 h1 (by omega) hLh, by simp; omega, by omega, hLh, by omega, by omega, sub_run HRUN.out hr5 HLL.out (by omega), by rw [ba_app, ba_app]; simp, HSTa.out⟩
    ·have hdv : ((v : Int) == (loK k : Int)) = false := by simp; omega
     go_wp2_with fail
     refine (HL.out _).mono ?_
     rintro e w8 ⟨rfl, hd8⟩
     have HST8 := Lib.hid (HST7.out.below hd8.below)
     clear hd8 HST7
     go_wp2_with fail
     refine (HP.out 2 (by omega) _ HST8.out.1).mono ?_
     rintro e wp ⟨rp, hrp, rfl, hstp⟩
     have HSTp := Lib.hid (HST8.out.trans hstp)
     clear hstp HST8
     by_cases hp0 : rp = 0
     ·subst hp0
      go_wp2_with fail
      exact bodyPost_ret (v := .tuple #[.string (ba l1 ++ (ba [47] ++ ba l2)), .int .i64 L, .int .i64 s]) (by simp [results, Tryz.results168, go_sem]; rfl) rfl ⟨l1 ++ 47 :: l2, L, s, by rw [← HSTEPS.out]; exact item_by hl1 hl2 hs1 h1 h2, by simp; omega, by omega, hLh, hs1, hs12, sub_run HRUN.out hr5 HLL.out (by omega), by rw [ba_app, ba_app]; simp, HSTp.out⟩
     ·have hdp : ((rp : Int) == 0) = false := by simp; omega
      have HST7 := HSTp
      by_cases hs2 : 1 < s
      ·have hds : decide ((1 : Int) < s) = true := decide_eq_true (by omega)
       go_wp2_with fail
       rw [min_nat s (hiK k) L hLh]
       obtain ⟨M, hM, hMs, hMh, hM0⟩ : ∃ M : Nat, M = min s (hiK k - L + 1) ∧ M ≤ s ∧ M ≤ hiK k - L + 1 ∧ 0 < M := ⟨_, rfl, by omega, by omega, by omega⟩
       rw [← hM]
       clear hM
       refine (HP.out M hM0 _ HST7.out.1).mono ?_
       rintro e w8 ⟨r8, hr8, rfl, hst8⟩
       have HST8 := Lib.hid (HST7.out.trans hst8)
       clear hst8 HST7
       have hr8i : (r8 : Int) ≤ 12 := by omega
       go_wp2_with fail
       rw [show (L : Int) + r8 = ((L + r8 : Nat) : Int) by push_cast; rfl]
       obtain ⟨L2, hL2, hL2a, hL2b, hL2h⟩ : ∃ L2 : Nat, L2 = L + r8 ∧ L ≤ L2 ∧ L2 < L + s ∧ L2 ≤ hiK k := ⟨_, rfl, by omega, by omega, by omega⟩
       rw [← hL2]
       refine (HV.out L2 (HKL.out L2 (by omega) hL2h) _ HST8.out.1).mono ?_
       rintro e w9 ⟨l3, hl3, hll3, rfl, hst9⟩
       have HST9 := Lib.hid (HST8.out.trans hst9)
       have hsz3 : (ba l3).size ≤ 11 := by rw [ba_size]; exact hll3
       clear hst9 HST8 hL2
       go_wp2_with fail
       exact bodyPost_ret (v := .tuple #[.string ((ba l1 ++ ba [45] ++ ba l3) ++ (ba [47] ++ ba l2)), .int .i64 L2, .int .i64 s]) (by simp [results, Tryz.results168, go_sem]; rfl) rfl ⟨(l1 ++ 45 :: l3) ++ 47 :: l2, L2, s, item_range_by hl1 hl3 hl2 hs1 h1 (by omega) hL2h, by simp; omega, by omega, hL2h, hs1, hs12, sub_run HRUN.out hr5 HLL.out hL2b, by rw [ba_app, ba_app, ba_app, ba_app]; simp, HST9.out⟩
      ·have hds : decide ((1 : Int) < s) = false := decide_eq_false (by omega)
       obtain rfl : s = 1 := by omega
       go_wp2_with fail
       refine (HV.out L (HKL.out L (by omega) hLh) _ HST7.out.1).mono ?_
       rintro e w9 ⟨l3, hl3, hll3, rfl, hst9⟩
       have HST9 := Lib.hid (HST7.out.trans hst9)
       have hsz3 : (ba l3).size ≤ 11 := by rw [ba_size]; exact hll3
       clear hst9 HST7
       go_wp2_with fail
       refine (HP.out 4 (by omega) _ HST9.out.1).mono ?_
       rintro e wa ⟨ra, hra, rfl, hsta⟩
       have HSTa := Lib.hid (HST9.out.trans hsta)
       clear hsta HST9
       by_cases ha : ra = 1
       ·subst ha
        go_wp2_with fail
        exact bodyPost_ret (v := .tuple #[.string ((ba l1 ++ ba [45] ++ ba l3) ++ (ba [47] ++ ba l2)), .int .i64 L, .int .i64 1]) (by simp [results, Tryz.results168, go_sem]; rfl) rfl ⟨(l1 ++ 45 :: l3) ++ 47 :: l2, L, 1, item_range_by hl1 hl3 hl2 (by omega) h1 (by omega) hLh, by simp; omega, by omega, hLh, by omega, by omega, sub_run HRUN.out hr5 HLL.out (by omega), by rw [ba_app, ba_app, ba_app, ba_app]; simp, HSTa.out⟩
       ·have hda : ((ra : Int) == 1) = false := by simp; omega
        go_wp2_with fail
        exact bodyPost_ret (v := .tuple #[.string (ba l1 ++ ba [45] ++ ba l3), .int .i64 L, .int .i64 1]) (by simp [results, Tryz.results168, go_sem]; rfl) rfl ⟨l1 ++ 45 :: l3, L, 1, item_range hl1 hl3 h1 (by omega) hLh, by simp; omega, by omega, hLh, by omega, by omega, sub_run HRUN.out hr5 HLL.out (by omega), by rw [ba_app, ba_app]; simp, HSTa.out⟩
  ·have hd : decide ((hiK k : Int) < (v : Int) + m) = false := decide_eq_false (by omega)
   go_wp2_with fail
   refine (HP.out n0 (by omega) _ HST3.out.1).mono ?_
   rintro e w5 ⟨r5, hr5, rfl, hst5⟩
   have HST5 := Lib.hid (HST3.out.trans hst5)
   clear hst5 HST3
   obtain ⟨m5, hm5⟩ : ∃ m5 : Nat, m5 = r5 * s := ⟨_, rfl⟩
   have hlast := (HRUN.out r5 hr5).1
   rw [← hm5] at hlast
   have HM5 := Lib.hid hm5
   clear hm5 hmi
   go_wp2_with fail
   obtain ⟨L, hL⟩ : ∃ L : Nat, L = v + r5 * s := ⟨_, rfl⟩
   have hlw : wrap64 ((v : Int) + wrap64 ((1 + (r5 : Int) - 1) * (s : Int))) = (L : Int) := by
    rw [hL, ← HM5.out]
    exact last_wrap v m5 r5 s HM5.out (by omega)
   rw [hlw]
   have hLh : L ≤ hiK k := by rw [hL, ← HM5.out]; exact hlast
   have HLL := Lib.hid hL
   have hLv : v ≤ L := by rw [hL]; omega
   clear hlw hL hlast
   refine (HV.out v HK.out _ HST5.out.1).mono ?_
   rintro e w6 ⟨l1, hl1, hll1, rfl, hst6⟩
   have HST6 := Lib.hid (HST5.out.trans hst6)
   have hsz1 : (ba l1).size ≤ 11 := by rw [ba_size]; exact hll1
   clear hst6 HST5
   go_wp2_with fail
   refine (HN.out s (by omega) _ HST6.out.1).mono ?_
   rintro e w7 ⟨l2, hl2, hll2, rfl, hst7⟩
   have HST7 := Lib.hid (HST6.out.trans hst7)
   have hsz2 : (ba l2).size ≤ 11 := by rw [ba_size]; exact hll2
   clear hst7 HST6
   by_cases hs2 : 1 < s
   ·have hds : decide ((1 : Int) < s) = true := decide_eq_true (by omega)
    go_wp2_with fail
    rw [min_nat s (hiK k) L hLh]
    obtain ⟨M, hM, hMs, hMh, hM0⟩ : ∃ M : Nat, M = min s (hiK k - L + 1) ∧ M ≤ s ∧ M ≤ hiK k - L + 1 ∧ 0 < M := ⟨_, rfl, by omega, by omega, by omega⟩
    rw [← hM]
    clear hM
    refine (HP.out M hM0 _ HST7.out.1).mono ?_
    rintro e w8 ⟨r8, hr8, rfl, hst8⟩
    have HST8 := Lib.hid (HST7.out.trans hst8)
    clear hst8 HST7
    have hr8i : (r8 : Int) ≤ 12 := by omega
    go_wp2_with fail
    rw [show (L : Int) + r8 = ((L + r8 : Nat) : Int) by push_cast; rfl]
    obtain ⟨L2, hL2, hL2a, hL2b, hL2h⟩ : ∃ L2 : Nat, L2 = L + r8 ∧ L ≤ L2 ∧ L2 < L + s ∧ L2 ≤ hiK k := ⟨_, rfl, by omega, by omega, by omega⟩
    rw [← hL2]
    refine (HV.out L2 (HKL.out L2 (by omega) hL2h) _ HST8.out.1).mono ?_
    rintro e w9 ⟨l3, hl3, hll3, rfl, hst9⟩
    have HST9 := Lib.hid (HST8.out.trans hst9)
    have hsz3 : (ba l3).size ≤ 11 := by rw [ba_size]; exact hll3
    clear hst9 HST8 hL2
    go_wp2_with fail
    exact bodyPost_ret (v := .tuple #[.string ((ba l1 ++ ba [45] ++ ba l3) ++ (ba [47] ++ ba l2)), .int .i64 L2, .int .i64 s]) (by simp [results, Tryz.results168, go_sem]; rfl) rfl ⟨(l1 ++ 45 :: l3) ++ 47 :: l2, L2, s, item_range_by hl1 hl3 hl2 hs1 h1 (by omega) hL2h, by simp; omega, by omega, hL2h, hs1, hs12, sub_run HRUN.out hr5 HLL.out hL2b, by rw [ba_app, ba_app, ba_app, ba_app]; simp, HST9.out⟩
   ·have hds : decide ((1 : Int) < s) = false := decide_eq_false (by omega)
    obtain rfl : s = 1 := by omega
    go_wp2_with fail
    refine (HV.out L (HKL.out L (by omega) hLh) _ HST7.out.1).mono ?_
    rintro e w9 ⟨l3, hl3, hll3, rfl, hst9⟩
    have HST9 := Lib.hid (HST7.out.trans hst9)
    have hsz3 : (ba l3).size ≤ 11 := by rw [ba_size]; exact hll3
    clear hst9 HST7
    go_wp2_with fail
    refine (HP.out 4 (by omega) _ HST9.out.1).mono ?_
    rintro e wa ⟨ra, hra, rfl, hsta⟩
    have HSTa := Lib.hid (HST9.out.trans hsta)
    clear hsta HST9
    by_cases ha : ra = 1
    ·subst ha
     go_wp2_with fail
     exact bodyPost_ret (v := .tuple #[.string ((ba l1 ++ ba [45] ++ ba l3) ++ (ba [47] ++ ba l2)), .int .i64 L, .int .i64 1]) (by simp [results, Tryz.results168, go_sem]; rfl) rfl ⟨(l1 ++ 45 :: l3) ++ 47 :: l2, L, 1, item_range_by hl1 hl3 hl2 (by omega) h1 (by omega) hLh, by simp; omega, by omega, hLh, by omega, by omega, sub_run HRUN.out hr5 HLL.out (by omega), by rw [ba_app, ba_app, ba_app, ba_app]; simp, HSTa.out⟩
    ·have hda : ((ra : Int) == 1) = false := by simp; omega
     go_wp2_with fail
     exact bodyPost_ret (v := .tuple #[.string (ba l1 ++ ba [45] ++ ba l3), .int .i64 L, .int .i64 1]) (by simp [results, Tryz.results168, go_sem]; rfl) rfl ⟨l1 ++ 45 :: l3, L, 1, item_range hl1 hl3 h1 (by omega) hLh, by simp; omega, by omega, hLh, by omega, by omega, sub_run HRUN.out hr5 HLL.out (by omega), by rw [ba_app, ba_app]; simp, HSTa.out⟩
end Go.Proofs.YtmecbmgfacpecaaGreatDoor.Cron
namespace Go.Proofs.YtmecbmgfacpecaaGreatDoor.Cron
open Go Go.RowKit Go.Proofs.YtmecbmgfacpecaaGreatDoor.Text Go.Proofs.YtmecbmgfacpecaaGreatDoor.Bits
set_option linter.unusedVariables false
set_option linter.unusedSimpArgs false
theorem steps_bit (a b s j : Nat) : (steps a b s).testBit j = (decide (j < 64) && (decide (a ≤ j) && decide (j ≤ b) && ((j - a) % s == 0))) := by
 unfold steps
 rw [mkBits_test]
def setN (st : Bool) (p : Nat → Bool) : Nat := mkBits p 63 ||| (if st then 9223372036854775808 else 0)
theorem setN_bit (st : Bool) (p : Nat → Bool) (j : Nat) (hj : j < 63) : (setN st p).testBit j = p j := by
 unfold setN
 rw [Nat.testBit_or, mkBits_test, decide_eq_true hj, Bool.true_and]
 cases st with
 | false => simp
 | true =>
  rw [if_pos rfl, show (9223372036854775808 : Nat) = 2 ^ 63 from rfl, Nat.testBit_two_pow]
  rw [show decide (63 = j) = false from decide_eq_false (by omega), Bool.or_false]
theorem setN_star (st : Bool) (p : Nat → Bool) : (setN st p).testBit 63 = st := by
 unfold setN
 rw [Nat.testBit_or, mkBits_test]
 cases st with
 | false => simp
 | true => rw [if_pos rfl, show (9223372036854775808 : Nat) = 2 ^ 63 from rfl, Nat.testBit_two_pow]; simp
end Go.Proofs.YtmecbmgfacpecaaGreatDoor.Cron
