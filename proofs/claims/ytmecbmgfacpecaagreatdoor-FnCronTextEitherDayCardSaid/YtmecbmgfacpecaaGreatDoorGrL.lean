/- Lemmas and walks on the way to the law, merged by wip/tools/pack.py: Words, Standard, FineEnds, FineItem, Union, FieldMid. Conditions: none. -/
import Derived.Test.YtmecbmgfacpecaaGreatDoorGrJ
import Derived.Test.YtmecbmgfacpecaaGreatDoorGrK
import Derived.Test.YtmecbmgfacpecaaGreatDoorPrB
import Derived.Test.YtmecbmgfacpecaaGreatDoorGrH
import Derived.Outline
namespace Go.Proofs.YtmecbmgfacpecaaGreatDoor.Cron
open Go Go.RowKit Go.Proofs.YtmecbmgfacpecaaGreatDoor.Text Go.Proofs.YtmecbmgfacpecaaGreatDoorW.PrintWords Go.Proofs.YtmecbmgfacpecaaGreatDoorW.PrintLast Go.Proofs.YtmecbmgfacpecaaGreatDoorW.PrintMore Go.Proofs.YtmecbmgfacpecaaGreatDoor.Pr
set_option linter.unusedVariables false
set_option linter.unusedSimpArgs false
def Ascii (s : ByteArray) : Prop := ∀ c ∈ s.data.toList, c.toNat < 128
theorem blank_f (n : Nat) (h : n < 128) : spec_cronBlank.f (n : Int) = some (spaceZ n) := by
 unfold spec_cronBlank.f
 by_cases h32 : n = 32
 ·subst h32; rfl
 ·rw [if_neg (by omega)]
  by_cases h9 : 9 ≤ n
  ·rw [if_pos (by omega)]
   congr 1
   unfold spaceZ
   rw [Bool.eq_iff_iff]
   simp only [decide_eq_true_eq]
   omega
  ·rw [if_neg (by omega)]
   congr 1
   unfold spaceZ
   symm
   apply decide_eq_false
   omega
def frm : Option Nat → Int
 | none => -1
 | some a => (a : Int)
theorem frm_none : frm none = -1 := rfl
theorem frm_some (a : Nat) : frm (some a) = (a : Int) := rfl
theorem words_l0 (s : ByteArray) (hs : s.size ≤ 4294967296) (ha : Ascii s) : ∀ (d i : Nat) (st : Option Nat) (acc : List (Nat × Nat)) (k : Nat), s.size - i = d → i ≤ s.size → 2 * d < k → (∀ a, st = some a → a < i) → acc.length ≤ i →
  spec_CronWords.l0 k s (acc.map (spanBa s)) (frm st) (s.size : Int) (i : Int) = some ((Lib.closeSpans s (Lib.spansFromP spaceZ s d i st acc)).map (spanBa s))
 | 0, i, st, acc, k, hd, hi, hk, hst, hac => by
  obtain ⟨k, rfl⟩ : ∃ m, k = m + 1 := ⟨k - 1, by omega⟩
  unfold spec_CronWords.l0 Lib.spansFromP Lib.closeSpans
  rw [if_neg (by omega)]
  cases st with
  | none =>
   rw [frm_none, if_neg (by omega)]
  | some a =>
   have := hst a rfl
   rw [frm_some, if_pos (by omega), if_pos (by omega), if_pos (by omega), if_pos (by rw [List.length_map]; omega), Int.toNat_natCast]
   simp [spanBa]
 | d + 1, i, st, acc, k, hd, hi, hk, hst, hac => by
  obtain ⟨k, rfl⟩ : ∃ m, k = m + 2 := ⟨k - 2, by omega⟩
  have hlt : i < s.size := by omega
  have hl : i < s.data.toList.length := by rw [← size_list]; exact hlt
  have hw : wrap64 ((i : Int) + 1) = ((i + 1 : Nat) : Int) := by
   unfold wrap64
   omega
  have hbt := bt_list s i hl
  have hget := List.getElem?_eq_getElem hl
  have hc := ha _ (List.getElem_mem hl)
  generalize s.data.toList[i] = c at *
  have hb := blank_f c.toNat hc
  rw [← hbt] at hb
  have hdec := (dec_at c hc s i hlt).1 hget
  unfold spec_CronWords.l0 Lib.spansFromP
  rw [if_pos (by omega), if_pos (by omega), if_pos (by omega), hb, if_pos hlt, hdec]
  simp only [Option.bind_some]
  cases hsp : spaceZ c.toNat with
  | true =>
   rw [hsp] at hb
   rw [if_pos rfl, if_pos rfl]
   unfold spec_CronWords.j1
   cases st with
   | none =>
    have hf : decide (frm none ≥ 0) = false := by decide
    rw [hf, if_neg (by decide), if_pos (by omega), if_pos (by omega), hb]
    simp only [Option.bind_some, if_true]
    rw [hw]
    exact words_l0 s hs ha d (i + 1) none acc k (by omega) (by omega) (by omega) (fun a h => by cases h) (by omega)
   | some a =>
    have hai := hst a rfl
    have hf : decide (frm (some a) ≥ 0) = true := decide_eq_true (by rw [frm_some]; omega)
    rw [hf, if_pos rfl]
    rw [frm_some, if_pos (by omega), if_pos (by omega), if_pos (by omega), if_pos (by rw [List.length_map]; omega), hw, Int.toNat_natCast, Int.toNat_natCast]
    have := words_l0 s hs ha d (i + 1) none (acc ++ [(a, i)]) k (by omega) (by omega) (by omega) (fun a h => by cases h) (by simp; omega)
    simp only [List.map_append, List.map_cons, List.map_nil, spanBa, frm_none] at this ⊢
    exact this
  | false =>
   rw [hsp] at hb
   rw [if_neg (by decide), if_neg (by decide)]
   unfold spec_CronWords.j1
   rw [if_neg (by decide), if_pos (by omega), if_pos (by omega), hb]
   simp only [Option.bind_some]
   rw [if_neg (by decide)]
   cases st with
   | none =>
    rw [frm_none, if_pos (by omega), hw]
    exact words_l0 s hs ha d (i + 1) (some i) acc k (by omega) (by omega) (by omega) (fun a h => by injection h with h; omega) (by omega)
   | some a =>
    have hai := hst a rfl
    rw [frm_some, if_neg (by omega), hw]
    exact words_l0 s hs ha d (i + 1) (some a) acc k (by omega) (by omega) (by omega) (fun a' h => by injection h with h; omega) (by omega)
theorem words_f (s : ByteArray) (hs : s.size ≤ 4294967296) (ha : Ascii s) : ∃ k, spec_CronWords.f k s = some (fieldsZ s) := by
 refine ⟨2 * s.size + 1, ?_⟩
 unfold spec_CronWords.f
 have := words_l0 s hs ha s.size 0 none [] (2 * s.size + 1) (by omega) (by omega) (by omega) (fun a h => by cases h) (by simp)
 exact this
def joinL : List ByteArray → List UInt8
 | [] => []
 | x :: xs => x.data.toList ++ joinTail xs
where joinTail : List ByteArray → List UInt8
 | [] => []
 | x :: xs => 32 :: x.data.toList ++ joinTail xs
theorem join_l0 (xs : List ByteArray) (N : Nat) (hN : ∀ x ∈ xs, x.size ≤ N) (hlen : xs.length ≤ 2147483647) (hNN : N ≤ 2147483647) : ∀ (d i : Nat) (acc : List UInt8) (k : Nat), xs.length - i = d → i ≤ xs.length → d < k → 0 < i → acc.length ≤ i * (N + 1) →
  spec_CronJoin.l0 k ⟨#[32]⟩ (ba acc) xs (xs.length : Int) (i : Int) = some (ba (acc ++ joinL.joinTail (xs.drop i)))
 | 0, i, acc, k, hd, hi, hk, h0, hac => by
  obtain ⟨k, rfl⟩ : ∃ m, k = m + 1 := ⟨k - 1, by omega⟩
  unfold spec_CronJoin.l0
  rw [if_neg (by omega), List.drop_eq_nil_of_le (by omega)]
  simp [joinL.joinTail]
 | d + 1, i, acc, k, hd, hi, hk, h0, hac => by
  obtain ⟨k, rfl⟩ : ∃ m, k = m + 1 := ⟨k - 1, by omega⟩
  have hlt : i < xs.length := by omega
  have hw : wrap64 ((i : Int) + 1) = ((i + 1 : Nat) : Int) := by
   unfold wrap64
   omega
  have hrd : rdOf ByteArray.empty xs (i : Int) = xs[i] := by
   unfold rdOf
   rw [Int.toNat_natCast]
   simp [List.getD, hlt]
  have hxs := hN _ (List.getElem_mem hlt)
  have hdr := List.drop_eq_getElem_cons hlt
  generalize xs[i] = x at *
  have hmul : i * (N + 1) ≤ 2147483647 * 2147483648 := Nat.mul_le_mul (by omega) (by omega)
  have ej : ba acc ++ ⟨#[32]⟩ ++ x = ba (acc ++ (32 :: x.data.toList)) := by
   apply ByteArray.ext
   simp [ba]
  have hsz1 : (ba acc).size = acc.length := ba_size acc
  have hsz2 : (ba acc ++ (⟨#[32]⟩ : ByteArray)).size = acc.length + 1 := by
   rw [ByteArray.size_append, hsz1]; rfl
  unfold spec_CronJoin.l0
  rw [if_pos (by omega), if_pos (by omega), if_pos (by omega), if_pos (by omega), hrd, if_pos (by rw [hsz1]; show acc.length + 1 ≤ _; omega), if_pos (by rw [hsz2]; omega), ej, hw,
   join_l0 xs N hN hlen hNN d (i + 1) _ k (by omega) (by omega) (by omega) (by omega) (by
    rw [List.length_append, List.length_cons, ← size_list, Nat.add_mul]
    omega), hdr]
  simp [joinL.joinTail]
theorem join_f (xs : List ByteArray) (N : Nat) (hN : ∀ x ∈ xs, x.size ≤ N) (hlen : xs.length ≤ 2147483647) (hNN : N ≤ 2147483647) : ∃ k, spec_CronJoin.f k xs ⟨#[32]⟩ = some (ba (joinL xs)) := by
 cases xs with
 | nil =>
  refine ⟨1, ?_⟩
  rfl
 | cons x xs =>
  refine ⟨xs.length + 3, ?_⟩
  have hw : wrap64 ((0 : Int) + 1) = ((1 : Nat) : Int) := by
   unfold wrap64
   omega
  have hx := hN x (List.mem_cons_self ..)
  have hrd : rdOf ByteArray.empty (x :: xs) (0 : Int) = x := rfl
  have h0 : (⟨#[]⟩ : ByteArray) ++ x = ba x.data.toList := by
   apply ByteArray.ext
   simp [ba]
  have := join_l0 (x :: xs) N hN hlen hNN xs.length 1 x.data.toList (xs.length + 2) (by simp) (by simp) (by omega) (by omega) (by rw [← size_list]; omega)
  unfold spec_CronJoin.f spec_CronJoin.l0
  rw [if_pos (by simp), if_pos (by omega), if_pos (by simp), if_neg (by omega), hrd, if_pos (by show 0 + x.size ≤ _; omega), h0, hw, this]
  rfl
theorem join_tail (xs : List ByteArray) (hx : ∀ x ∈ xs, x.data.toList ≠ [] ∧ ∀ c ∈ x.data.toList, c ≠ 32) : partsL 32 (joinL.joinTail xs) = xs.map fun x => x.data.toList := by
 induction xs with
 | nil => rfl
 | cons x xs ih =>
  have ih := ih fun y hy => hx y (List.mem_cons_of_mem _ hy)
  obtain ⟨h1, h2⟩ := hx x (List.mem_cons_self ..)
  unfold joinL.joinTail
  cases xs with
  | nil =>
   simp only [joinL.joinTail, List.append_nil, List.cons_append]
   unfold partsL
   rw [splitL_cons_eq, splitL_plain _ h2, List.filter_cons_of_neg (by simp), List.filter_cons_of_pos (by simpa using h1)]
   rfl
  | cons y ys =>
   have e : (32 : UInt8) :: x.data.toList ++ joinL.joinTail (y :: ys) = 32 :: (x.data.toList ++ 32 :: (y.data.toList ++ joinL.joinTail ys)) := by simp [joinL.joinTail]
   rw [e]
   unfold partsL at ih ⊢
   rw [splitL_cons_eq, List.filter_cons_of_neg (by simp), splitL_part _ _ h2, List.filter_cons_of_pos (by simpa using h1)]
   have e2 : joinL.joinTail (y :: ys) = 32 :: (y.data.toList ++ joinL.joinTail ys) := rfl
   rw [e2, splitL_cons_eq, List.filter_cons_of_neg (by simp)] at ih
   rw [ih]
   rfl
theorem join_parts (xs : List ByteArray) (hx : ∀ x ∈ xs, x.data.toList ≠ [] ∧ ∀ c ∈ x.data.toList, c ≠ 32) : partsL 32 (joinL xs) = xs.map fun x => x.data.toList := by
 have h := join_tail xs hx
 cases xs with
 | nil => rfl
 | cons x xs =>
  have e2 : joinL.joinTail (x :: xs) = 32 :: joinL (x :: xs) := by simp [joinL, joinL.joinTail]
  rw [e2] at h
  unfold partsL at h ⊢
  rw [splitL_cons_eq, List.filter_cons_of_neg (by simp)] at h
  exact h
theorem spans_same (p q : Nat → Bool) (s : ByteArray) (ha : Ascii s) (h : ∀ c ∈ s.data.toList, p c.toNat = q c.toNat) : ∀ (f pos : Nat) (st : Option Nat) (acc : List (Nat × Nat)), Lib.spansFromP p s f pos st acc = Lib.spansFromP q s f pos st acc
 | 0, _, _, _ => rfl
 | f + 1, pos, st, acc => by
  unfold Lib.spansFromP
  by_cases hlt : pos < s.size
  ·have hl : pos < s.data.toList.length := by rw [← size_list]; exact hlt
   have hm := List.getElem_mem hl
   have hdec := (dec_at _ (ha _ hm) s pos hlt).1 (List.getElem?_eq_getElem hl)
   have hpq := h _ hm
   rw [if_pos hlt, if_pos hlt, hdec]
   simp only [hpq]
   split <;> (cases st <;> exact spans_same p q s ha h f _ _ _)
  ·rw [if_neg hlt, if_neg hlt]
def Word (x : ByteArray) : Prop := x.data.toList ≠ [] ∧ ∀ c ∈ x.data.toList, spaceZ c.toNat = false
theorem fields_join (xs : List ByteArray) (hx : ∀ x ∈ xs, Word x) (ha : Ascii (ba (joinL xs))) : fieldsZ (ba (joinL xs)) = xs := by
 have hmem : ∀ (ys : List ByteArray), (∀ x ∈ ys, Word x) → ∀ c ∈ joinL.joinTail ys, c = 32 ∨ spaceZ c.toNat = false := by
  intro ys
  induction ys with
  | nil => intro _ c hc; cases hc
  | cons y ys ih =>
   intro hy c hc
   unfold joinL.joinTail at hc
   rcases List.mem_append.1 hc with hc | hc
   ·rcases List.mem_cons.1 hc with rfl | hc
    ·exact .inl rfl
    ·exact .inr ((hy y (List.mem_cons_self ..)).2 c hc)
   ·exact ih (fun z hz => hy z (List.mem_cons_of_mem _ hz)) c hc
 have hall : ∀ c ∈ joinL xs, c = 32 ∨ spaceZ c.toNat = false := by
  cases xs with
  | nil => intro c hc; cases hc
  | cons x xs =>
   intro c hc
   unfold joinL at hc
   rcases List.mem_append.1 hc with hc | hc
   ·exact .inr ((hx x (List.mem_cons_self ..)).2 c hc)
   ·exact hmem xs (fun z hz => hx z (List.mem_cons_of_mem _ hz)) c hc
 have hsame := spans_same spaceZ (fun r => r == (32 : UInt8).toNat) (ba (joinL xs)) ha (fun c hc => by
  rw [ba_list] at hc
  rcases hall c hc with rfl | h
  ·rfl
  ·rw [h]
   symm
   rw [beq_eq_false_iff_ne]
   intro e
   rw [e] at h
   exact absurd h (by decide))
 have hgo := goFields_parts 32 (by decide) (ba (joinL xs))
 unfold fieldsZ Lib.goFieldsP Lib.spansOfP at *
 rw [hsame _ _ _ _, hgo, ba_list, join_parts xs fun x hxm => ⟨(hx x hxm).1, fun c hc e => by
  subst e
  exact absurd ((hx x hxm).2 _ hc) (by decide)⟩, List.map_map]
 have : ∀ x : ByteArray, (ba ∘ fun x : ByteArray => x.data.toList) x = x := fun x => ba_of x
 rw [List.map_congr_left (g := id) (fun x _ => this x), List.map_id]
end Go.Proofs.YtmecbmgfacpecaaGreatDoor.Cron
namespace Go.Proofs.YtmecbmgfacpecaaGreatDoor.Cron
open Go Go.RowKit Go.Proofs.YtmecbmgfacpecaaGreatDoor.Text Go.Proofs.YtmecbmgfacpecaaGreatDoor.Bits Go.Proofs.YtmecbmgfacpecaaGreatDoorW.PrintWords Go.Proofs.YtmecbmgfacpecaaGreatDoorW.PrintLast Go.Proofs.YtmecbmgfacpecaaGreatDoorW.PrintMore
set_option linter.unusedVariables false
set_option linter.unusedSimpArgs false
theorem standardParser_any (w : World) : Calls Tryz.prog 112 #[] w fun e w' => e = .returned (.agg #[.int .i64 380]) ∧ Below w.heap.size w w' := by
 have HN := Lib.hid (fun w' => newParser_ok 380 (by omega) (by decide) w')
 go_enter Tryz.func112, Tryz.ntmps112
 go_wp2_with fail
 refine (HN.out _).mono ?_
 rintro e w1 ⟨rfl, hb1⟩
 have hB : Below w.heap.size w w1 := ((Below.refl _ _).alloc (Nat.le_refl _) _).trans (hb1.mono (by simp))
 have c1 : w1.cell? ⟨w.heap.size, 0, none⟩ = some (.int .i64 0) := (hb1.cell (p := ⟨w.heap.size, 0, none⟩) (by simp)).trans (by simp [go_sem])
 have f1 : w1.frozen? ⟨w.heap.size, 0, none⟩ = false := (hb1.frozen (p := ⟨w.heap.size, 0, none⟩) (by simp)).trans (by simp [go_sem])
 clear hb1
 go_wp2_with fail
 exact bodyPost_ret (v := .agg #[.int .i64 380]) (by simp [results, Tryz.results112, go_sem, c1]) rfl ⟨rfl, hB.setCell (p := ⟨w.heap.size, 0, none⟩) (Nat.le_refl _) _⟩
theorem standardPlain (s : ByteArray) (hs : s.size ≤ 4294967296) (h1 : Lib.hasPrefix s.data.toList [84, 90, 61] = false) (h2 : Lib.hasPrefix s.data.toList [67, 82, 79, 78, 95, 84, 90, 61] = false)
  (h3 : Lib.hasPrefix s.data.toList [64] = false) (w : World) (hg : G w) :
  Calls Tryz.prog 63 #[.string s] w (ParseAns w (parseS s 380)) := by
 have HP := Lib.hid (fun w' => standardParser_any w')
 have HC := Lib.hid (fun w' hg' => parsePlain 380 (by omega) s hs h1 h2 h3 w' hg')
 have HG := Lib.hid (fun w' (h : Below w.heap.size w w') => hg.below h)
 clear h1 h2 h3 hg
 generalize parseS s 380 = r at *
 go_enter Tryz.func63, Tryz.ntmps63
 go_wp2_with fail
 refine (HP.out _).mono ?_
 rintro e w1 ⟨rfl, hb1⟩
 have HB1 := Lib.hid hb1
 clear hb1
 go_wp2_with fail
 refine (HC.out _ (HG.out _ HB1.out)).mono ?_
 intro e w2 hP
 obtain ⟨hres, hb2⟩ := hP
 have HB2 := Lib.hid (below_of_le HB1.out hb2)
 clear hb2 HC HG HP HB1
 cases r with
 | none =>
  obtain ⟨t, x, rfl⟩ := hres
  go_wp2_with fail
  go_ret2
  exact ⟨⟨t, x, rfl⟩, HB2.out⟩
 | some l =>
  obtain ⟨g, rfl, hg⟩ := hres
  have HGG := Lib.hid hg
  clear hg
  go_wp2_with fail
  go_ret2
  exact ⟨⟨g, rfl, HGG.out⟩, HB2.out⟩
theorem parseStandard_any (s : ByteArray) (hs : s.size ≤ 4294967296) (h1 : Lib.hasPrefix s.data.toList [84, 90, 61] = false) (h2 : Lib.hasPrefix s.data.toList [67, 82, 79, 78, 95, 84, 90, 61] = false)
  (h3 : Lib.hasPrefix s.data.toList [64] = false) (w : World) (hg : G w) :
  Calls Tryz.prog 25 #[.string s] w (CronAns w (parseS s 380)) := by
 have HC := Lib.hid (fun w' hg' => standardPlain s hs h1 h2 h3 w' hg')
 have HG := Lib.hid (fun w' (h : Below w.heap.size w w') => hg.below h)
 clear h1 h2 h3 hg
 generalize parseS s 380 = r at *
 go_enter Tryz.func25, Tryz.ntmps25
 go_wp2_with fail
 refine (HC.out _ (HG.out _ ((Below.refl _ _).alloc (Nat.le_refl _) _))).mono ?_
 intro e w2 hP
 obtain ⟨hres, hb2⟩ := hP
 have HB2 := Lib.hid (below_of_le ((Below.refl w.heap.size w).alloc (Nat.le_refl _) _) hb2)
 have HROW2 := Lib.hid (show w2.heap[w.heap.size]? = some (.cells noSched 26 (0, 0)) from (hb2.block _ (by simp)).trans (heap_alloc_new w _))
 clear hb2 HC HG
 cases r with
 | none =>
  obtain ⟨t, x, rfl⟩ := hres
  go_wp2_with fail
  refine (plainSched_bad _ _ _ _).mono ?_
  rintro e w3 ⟨rfl, hb3⟩
  have hrow3 := (hb3.block _ (Array.getElem?_eq_some_iff.1 HROW2.out).1).trans HROW2.out
  have HROW3 := Lib.hid hrow3
  have HB3 := Lib.hid (below_of_le HB2.out hb3)
  clear hrow3 hb3
  go_wp2_with (refine wpList_store_sched rfl _ _ rfl w.heap.size noSched noSched rfl rfl rfl noSched_one rfl HROW3.out ?_)
  refine bodyPost_ret (v := .tuple #[.agg noSched, .bool false]) ?_ rfl ⟨rfl, ?_⟩
  ·exact results_sched (fn := Tryz.f25) (p := 2) (u := 3) rfl _ _ w.heap.size _ rfl rfl (setRow_heap _ _ _ _ _ _ HROW3.out)
  ·exact below_setRow HB3.out (Nat.le_refl _) _
 | some l =>
  obtain ⟨g, rfl, hg⟩ := hres
  have HGG := Lib.hid hg
  clear hg
  go_wp2_with fail
  refine (plainSched_ok l g none _ HGG.out).mono ?_
  rintro e w3 ⟨rfl, hb3⟩
  have hrow3 := (hb3.block _ (Array.getElem?_eq_some_iff.1 HROW2.out).1).trans HROW2.out
  have HROW3 := Lib.hid hrow3
  have HB3 := Lib.hid (below_of_le HB2.out hb3)
  clear hrow3 hb3
  go_wp2_with (refine wpList_store_sched rfl _ _ rfl w.heap.size (schedCells l) noSched rfl rfl rfl (sched_one l) rfl HROW3.out ?_)
  refine bodyPost_ret (v := .tuple #[.agg (schedCells l), .bool true]) ?_ rfl ⟨rfl, ?_⟩
  ·exact results_sched (fn := Tryz.f25) (p := 2) (u := 3) rfl _ _ w.heap.size _ rfl rfl (setRow_heap _ _ _ _ _ _ HROW3.out)
  ·exact below_setRow HB3.out (Nat.le_refl _) _
theorem norm_five (l : List ByteArray) (h : l.length = 5) : normF l 380 = some (⟨#[48]⟩ :: l) := by
 obtain ⟨a, b, c, d, e, rfl⟩ : ∃ a b c d e, l = [a, b, c, d, e] := by
  match l, h with
  | [a, b, c, d, e], _ => exact ⟨a, b, c, d, e, rfl⟩
 have h1 : nOpt 380 = 0 := by decide
 have h2 : takenN (optAll 380) placesL = 5 := by decide
 have h3 : optAll 380 = 380 := by decide
 unfold normF
 rw [h1, h2, h3, if_neg (by omega), if_neg (by simp), if_neg (by omega)]
 simp [fillL, placesL, defaultsL]
theorem parse_five (l : List ByteArray) (h : l.length = 5) (hw : ∀ x ∈ l, Word x) (ha : Ascii (ba (joinL l))) : parseS (ba (joinL l)) 380 = sixS (⟨#[48]⟩ :: l) := by
 unfold parseS
 rw [fields_join l hw ha, norm_five l h]
 have hne : (ba (joinL l)).size ≠ 0 := by
  intro e
  match l, h, hw with
  | x :: xs, _, hw =>
   have hx := (hw x (List.mem_cons_self ..)).1
   rw [ba_size] at e
   simp only [joinL, List.length_append] at e
   have : x.data.toList.length ≠ 0 := fun h0 => hx (List.length_eq_zero_iff.1 h0)
   omega
 rw [if_neg hne]
 rfl
end Go.Proofs.YtmecbmgfacpecaaGreatDoor.Cron
namespace Go.Proofs.YtmecbmgfacpecaaGreatDoor.Cron
open Go Go.RowKit Go.Proofs.YtmecbmgfacpecaaGreatDoor.Bits Go.Proofs.YtmecbmgfacpecaaGreatDoorW.PrintWords Go.Proofs.YtmecbmgfacpecaaGreatDoorW.PrintMore Go.Proofs.YtmecbmgfacpecaaGreatDoor.Pr Go.Proofs.YtmecbmgfacpecaaGreatDoor.Text
set_option linter.unusedVariables false
def ends2 (val : List UInt8 → Option Nat) (lo hi : Nat) : List (List UInt8) → Option (Nat × Nat × Bool)
 | [] => none
 | e :: r => if e = [42] ∨ e = [63] then (if r = [] then some (lo, hi, true) else none) else endsRest val (val e) r
def rangeS2 (val : List UInt8 → Option Nat) (lo hi : Nat) (s : List UInt8) : Option Nat :=
 match splitL 47 s with
 | [] => none
 | p :: ps =>
  match ends2 val lo hi (splitL 45 p) with
  | none => none
  | some (a, b, star) => rangeFin lo hi ((splitL 45 p).length == 1) a b star ps
def fieldS2 (val : List UInt8 → Option Nat) (lo hi : Nat) (l : List UInt8) : Option Nat := fieldGo (rangeS2 val lo hi) (partsL 44 l) 0
theorem ends2_star {val : List UInt8 → Option Nat} {lo hi : Nat} {q : List UInt8} (qs : List (List UInt8)) (h : q = [42] ∨ q = [63]) : ends2 val lo hi (q :: qs) = if qs = [] then some (lo, hi, true) else none := by
 simp only [ends2]; rw [if_pos h]
theorem ends2_else {val : List UInt8 → Option Nat} {lo hi : Nat} {q : List UInt8} (qs : List (List UInt8)) (h : ¬ (q = [42] ∨ q = [63])) : ends2 val lo hi (q :: qs) = endsRest val (val q) qs := by
 simp only [ends2]; rw [if_neg h]
theorem ends2_is (val : List UInt8 → Option Nat) (kind : Int) (HV : ReadsLike val kind) (lo hi : Nat) (p : ByteArray) (hp : p.size ≤ 4294967296) :
  ∃ k low high star single v, spec_cronEnds.f k lo hi kind p = some (low, high, star, single, v) ∧ single = ((splitL 45 p.data.toList).length == 1) ∧ EndsIs (ends2 val lo hi (splitL 45 p.data.toList)) lo hi low high star single v := by
 obtain ⟨K, hK⟩ := pieces_f 45 p (by omega)
 obtain ⟨q, qs, hqs⟩ : ∃ q qs, splitL 45 p.data.toList = q :: qs := by
  cases h : splitL 45 p.data.toList with
  | nil => exact absurd h (splitL_ne _ _)
  | cons q qs => exact ⟨q, qs, rfl⟩
 have hq : splitB 45 p = ba q :: qs.map ba := by rw [splitB, hqs]; rfl
 have hsz : ∀ x ∈ splitL 45 p.data.toList, (ba x).size ≤ 4294967296 := by
  intro x hx
  have := splitL_size 45 _ x hx
  rw [← size_list] at this
  rw [ba_size]
  omega
 rw [hq] at hK
 have hlen : (((ba q :: qs.map ba).length : Nat) : Int) = (qs.length : Int) + 1 := by simp
 have hsg : ((((ba q :: qs.map ba).length : Nat) : Int) == 1) = ((splitL 45 p.data.toList).length == 1) := by
  rw [hlen, hqs]
  cases qs with
  | nil => rfl
  | cons a t => simp; omega
 by_cases hst : q = [42] ∨ q = [63]
 ·-- a star
  have hends := ends2_star (val := val) (lo := lo) (hi := hi) qs hst
  have key : ∀ k, K + 2 ≤ k → ∃ v : Int, (v = 1 ∨ v = 2) ∧ (v = 1 → qs = []) ∧ spec_cronEnds.f k lo hi kind p = some ((lo : Int), (hi : Int), true, (splitL 45 p.data.toList).length == 1, v) := by
   intro k hk
   have hk' := hK k (by omega)
   obtain ⟨k, rfl⟩ : ∃ m, k = m + 1 := ⟨k - 1, by omega⟩
   unfold spec_cronEnds.f
   have hk2 : spec_cronPieces.f (k + 1) p 45 = some (ba q :: qs.map ba) := hk'
   rw [hk2]
   simp only [Option.bind_some]
   rw [if_pos (by simp)]
   have hj : ∀ b, b = true → ∃ v : Int, (v = 1 ∨ v = 2) ∧ (v = 1 → qs = []) ∧ spec_cronEnds.j0 (k + 1) (ba q :: qs.map ba) b lo hi kind = some ((lo : Int), (hi : Int), true, (splitL 45 p.data.toList).length == 1, v) := by
    rintro _ rfl
    simp only [spec_cronEnds.j0, if_true, hsg]
    split
    ·exact ⟨2, .inr rfl, fun h => by omega, rfl⟩
    ·rename_i hno
     have hqn : qs = [] := by
      cases qs with
      | nil => rfl
      | cons a t => exact absurd (by simp; omega) hno
     rw [if_pos (by simp)]
     split
     ·split
      ·exact ⟨1, .inl rfl, fun _ => hqn, rfl⟩
      ·split
       ·exact ⟨1, .inl rfl, fun _ => hqn, rfl⟩
       ·exact ⟨2, .inr rfl, fun h => by omega, rfl⟩
     ·exact ⟨1, .inl rfl, fun _ => hqn, rfl⟩
   by_cases h42 : (rdOf ByteArray.empty (ba q :: qs.map ba) 0).toList = ([42] : List UInt8)
   ·rw [if_pos h42]
    exact hj true rfl
   ·rw [if_neg h42]
    refine hj _ ?_
    rcases hst with h | h
    ·exact absurd (by rw [rdOf_zero, toList_data, ba_list, h]) h42
    ·rw [rdOf_zero, toList_data, ba_list, h]; rfl
  obtain ⟨v, hv, hvq, hf⟩ := key (K + 2) (Nat.le_refl _)
  refine ⟨K + 2, lo, hi, true, _, v, hf, rfl, ?_⟩
  rw [hqs, hends]
  exact ⟨by omega, fun h => by omega, fun h => .inl ⟨rfl, rfl, rfl, by rw [if_pos (hvq h)]⟩⟩
 ·have hends := ends2_else (val := val) (lo := lo) (hi := hi) qs hst
  have hn42 : ∀ l, ¬ (rdOf ByteArray.empty (ba q :: l) 0).toList = ([42] : List UInt8) := fun l h => hst (.inl (by rw [rdOf_zero, toList_data, ba_list] at h; exact h))
  have hn63 : ∀ l, ((rdOf ByteArray.empty (ba q :: l) 0).toList == ([63] : List UInt8)) = false := fun l => eq63_false (fun h => hst (.inr h))
  obtain ⟨k1, n1, v1, hk1, hv1⟩ := HV (ba q) (hsz q (by rw [hqs]; simp))
  rw [ba_list] at hv1
  have hmono1 : ∀ k, k1 ≤ k → spec_CronValue.f k kind (ba q) = some (n1, v1) := fun k hk => at_rounds (fun k => spec_CronValue.mono kind (ba q) k) hk hk1
  rw [hqs, hends]
  cases qs with
  | nil =>
   have key : ∀ k, K + k1 + 2 ≤ k → spec_cronEnds.f k lo hi kind p = some (n1, n1, false, true, v1) := by
    intro k hk
    have hk2 : spec_cronPieces.f k p 45 = some [ba q] := hK k (by omega)
    unfold spec_cronEnds.f
    rw [hk2]
    simp only [Option.bind_some]
    rw [if_pos (by simp), if_neg (hn42 _), hn63]
    obtain ⟨k, rfl⟩ : ∃ m, k = m + 1 := ⟨k - 1, by omega⟩
    simp only [spec_cronEnds.j0, Bool.false_eq_true, if_false, rdOf_zero]
    rw [if_pos (by simp), hmono1 k (by omega)]
    simp
   refine ⟨_, n1, n1, false, true, v1, key _ (Nat.le_refl _), rfl, ⟨hv1.vs, fun h => ?_, fun h => .inr ⟨rfl, val q, val q, hv1.fine h, hv1.fine h, fun _ => rfl, ?_⟩⟩⟩
   ·rw [(hv1.bad h).1]; rfl
   ·cases val q <;> rfl
  | cons e2 qs =>
   cases qs with
   | nil =>
    obtain ⟨k2, n2, v2, hk2, hv2⟩ := HV (ba e2) (hsz e2 (by rw [hqs]; simp))
    rw [ba_list] at hv2
    have hmono2 : ∀ k, k2 ≤ k → spec_CronValue.f k kind (ba e2) = some (n2, v2) := fun k hk => at_rounds (fun k => spec_CronValue.mono kind (ba e2) k) hk hk2
    obtain ⟨v, hw, hvs, h0, h1, _, _⟩ := worse_f v1 v2 hv1.vs hv2.vs
    have key : ∀ k, K + k1 + k2 + 2 ≤ k → spec_cronEnds.f k lo hi kind p = some (n1, n2, false, false, v) := by
     intro k hk
     have hk2 : spec_cronPieces.f k p 45 = some [ba q, ba e2] := hK k (by omega)
     unfold spec_cronEnds.f
     rw [hk2]
     simp only [Option.bind_some]
     rw [if_pos (by simp), if_neg (hn42 _), hn63]
     obtain ⟨k, rfl⟩ : ∃ m, k = m + 1 := ⟨k - 1, by omega⟩
     simp only [spec_cronEnds.j0, Bool.false_eq_true, if_false, rdOf_zero, rdOf_one]
     rw [if_pos (by simp), hmono1 k (by omega)]
     simp only [Option.bind_some]
     rw [if_neg (by simp), if_pos (by simp), if_pos (by simp), hmono2 k (by omega)]
     simp only [Option.bind_some]
     rw [hw]
     rfl
    refine ⟨_, n1, n2, false, false, v, key _ (Nat.le_refl _), rfl, ⟨hvs, fun h => ?_, fun h => .inr ⟨rfl, val q, val e2, hv1.fine (h1 h).1, hv2.fine (h1 h).2, (fun e => by cases e), ?_⟩⟩⟩
    ·rcases h0 h with h | h
     ·rw [(hv1.bad h).1]; rfl
     ·cases hq' : val q with
      | none => rfl
      | some a => simp only [endsRest, (hv2.bad h).1]
    ·cases val q <;> simp only [endsRest, both]
     cases val e2 <;> rfl
   | cons e3 qs =>
    have key : ∀ k, K + k1 + 2 ≤ k → spec_cronEnds.f k lo hi kind p = some (0, 0, false, false, 0) := by
     intro k hk
     have hk2 : spec_cronPieces.f k p 45 = some (ba q :: ba e2 :: ba e3 :: qs.map ba) := hK k (by omega)
     unfold spec_cronEnds.f
     rw [hk2]
     simp only [Option.bind_some]
     rw [if_pos (by simp; omega), if_neg (hn42 _), hn63]
     obtain ⟨k, rfl⟩ : ∃ m, k = m + 1 := ⟨k - 1, by omega⟩
     simp only [spec_cronEnds.j0, Bool.false_eq_true, if_false, rdOf_zero]
     rw [if_pos (by simp; omega), hmono1 k (by omega)]
     simp only [Option.bind_some]
     rw [if_neg (by simp; omega), if_neg (by simp; omega)]
    refine ⟨_, 0, 0, false, false, 0, key _ (Nat.le_refl _), by simp, ⟨.inl rfl, fun _ => ?_, fun h => by omega⟩⟩
    cases val q <;> rfl
theorem rangeS2_eq {val : List UInt8 → Option Nat} {lo hi : Nat} {s p : List UInt8} {ps : List (List UInt8)} (h1 : splitL 47 s = p :: ps) :
  rangeS2 val lo hi s = match ends2 val lo hi (splitL 45 p) with | none => none | some (a, b, st) => rangeFin lo hi ((splitL 45 p).length == 1) a b st ps := by
 unfold rangeS2
 rw [h1]
theorem rangeS2_many {val : List UInt8 → Option Nat} {lo hi : Nat} {s p t t2 : List UInt8} {ps : List (List UInt8)} (h1 : splitL 47 s = p :: t :: t2 :: ps) : rangeS2 val lo hi s = none := by
 rw [rangeS2_eq h1]
 cases ends2 val lo hi (splitL 45 p) with
 | none => rfl
 | some x => obtain ⟨a, b, st⟩ := x; rfl
theorem mid2_one {val : List UInt8 → Option Nat} {lo hi : Nat} {s p : List UInt8} {low high v : Int} {star single : Bool} (h1 : splitL 47 s = [p])
  (he : EndsIs (ends2 val lo hi (splitL 45 p)) lo hi low high star single v) : Mid (rangeS2 val lo hi s) lo hi low high star 1 v := by
 refine ⟨he.vs, fun h => ?_, fun h => ⟨1, rfl, by omega, by omega, ?_⟩⟩
 ·rw [rangeS2_eq h1, he.bad h]
 ·rw [rangeS2_eq h1]
  rcases he.fine h with ⟨hs, hl, hh, hr⟩ | ⟨hs, ra, rb, ha, hb, _, hr⟩
  ·left
   refine ⟨hs, hl, hh, ?_⟩
   rw [hr]
   simp only [rangeFin, stepOf]
   rfl
  ·right
   refine ⟨hs, ra, rb, ha, hb, ?_⟩
   rw [hr]
   cases ra <;> cases rb <;> rfl
theorem mid2_two {val : List UInt8 → Option Nat} {lo hi : Nat} {s p t : List UInt8} {low high v n v2 v3 : Int} {star single : Bool} (h2 : hi ≤ 62) (h1 : splitL 47 s = [p, t])
  (hsg : single = ((splitL 45 p).length == 1))
  (he : EndsIs (ends2 val lo hi (splitL 45 p)) lo hi low high star single v)
  (hvs2 : v2 = 0 ∨ v2 = 1 ∨ v2 = 2)
  (hf2 : v2 = 1 → ∃ m : Nat, mp t = some m ∧ n = m ∧ 1 ≤ m ∧ m < 1099511627776) (hb2 : v2 = 0 → mp t = none ∨ mp t = some 0)
  (hvs : v3 = 0 ∨ v3 = 1 ∨ v3 = 2) (hw0 : v3 = 0 → v = 0 ∨ v2 = 0) (hw1 : v3 = 1 → v = 1 ∧ v2 = 1) :
  Mid (rangeS2 val lo hi s) lo hi low (if single && !star then (hi : Int) else high) star n v3 := by
 refine ⟨hvs, fun h => ?_, fun h => ?_⟩
 ·rw [rangeS2_eq h1]
  rcases hw0 h with h | h
  ·rw [he.bad h]
  ·cases hr : ends2 val lo hi (splitL 45 p) with
   | none => rfl
   | some x =>
    obtain ⟨a, b, st⟩ := x
    simp only [rangeFin, stepOf]
    rcases hb2 h with e | e
    ·rw [e]
    ·rw [e]; exact bitsOf_zero _ _ _ _ _
 ·obtain ⟨hv, hv2⟩ := hw1 h
  obtain ⟨m, hm, hn, hm1, hm2⟩ := hf2 hv2
  refine ⟨m, hn, hm1, hm2, ?_⟩
  rw [rangeS2_eq h1]
  rcases he.fine hv with ⟨hs, hl, hh, hr⟩ | ⟨hs, ra, rb, ha, hb, hab, hr⟩
  ·left
   subst hs
   refine ⟨rfl, hl, by simpa using hh, ?_⟩
   rw [hr]
   simp only [rangeFin, stepOf, hm]
   split <;> rfl
  ·right
   subst hs
   refine ⟨rfl, ?_⟩
   rw [hr]
   cases single with
   | true =>
    obtain rfl := hab rfl
    refine ⟨ra, some hi, ha, .inl ⟨hi, rfl, by simp only [Bool.not_false, Bool.and_true, if_true]; omega⟩, ?_⟩
    cases ra with
    | none => rfl
    | some a =>
     simp only [both, coreBits, rangeFin, stepOf, hm, ← hsg, if_true]
     rw [if_same]
   | false =>
    refine ⟨ra, rb, ha, by simpa using hb, ?_⟩
    cases ra with
    | none => rfl
    | some a =>
     cases rb with
     | none => rfl
     | some b =>
      simp only [both, coreBits, rangeFin, stepOf, hm, ← hsg, if_same, Bool.false_eq_true, if_false]
end Go.Proofs.YtmecbmgfacpecaaGreatDoor.Cron
namespace Go.Proofs.YtmecbmgfacpecaaGreatDoor.Cron
open Go Go.RowKit Go.Proofs.YtmecbmgfacpecaaGreatDoor.Text Go.Proofs.YtmecbmgfacpecaaGreatDoor.Bits Go.Proofs.YtmecbmgfacpecaaGreatDoorW.PrintWords Go.Proofs.YtmecbmgfacpecaaGreatDoorW.PrintLast Go.Proofs.YtmecbmgfacpecaaGreatDoorW.PrintMore Go.Proofs.YtmecbmgfacpecaaGreatDoor.Pr
set_option linter.unusedVariables false
set_option linter.unusedSimpArgs false
set_option maxRecDepth 100000 in
set_option maxHeartbeats 1600000 in
theorem cronItem2_any (val : List UInt8 → Option Nat) (kind : Int) (HV : ReadsLike val kind) (lo hi : Nat) (s : ByteArray) (hs : s.size ≤ 4294967296) (h1 : lo ≤ hi) (h2 : hi ≤ 62) (w : World) :
  Calls Tryz.prog 58 #[.agg #[.int .i64 lo, .int .i64 hi, .int .i64 kind], .string s] w (ItemPost w (rangeS2 val lo hi s.data.toList)) := by
 have hal := run_alloc_set
 obtain ⟨p, ps, hps⟩ : ∃ p ps, splitL 47 s.data.toList = p :: ps := by
  cases h : splitL 47 s.data.toList with
  | nil => exact absurd h (splitL_ne _ _)
  | cons p ps => exact ⟨p, ps, rfl⟩
 have hsz : ∀ x ∈ splitL 47 s.data.toList, (ba x).size ≤ 4294967296 := by
  intro x hx
  have := splitL_size 47 _ x hx
  rw [← size_list] at this
  rw [ba_size]
  omega
 have hpsB : splitB 47 s = ba p :: ps.map ba := by rw [splitB, hps]; rfl
 have HP := Lib.hid hps
 have HPB := Lib.hid hpsB
 have HSZ := Lib.hid hsz
 clear hps hpsB hsz
 go_enter Tryz.func58, Tryz.ntmps58
 go_wp2_with fail
 refine (pieces_any 47 s (by omega) _).mono ?_
 rintro e w1 ⟨g1, n1, c1, rfl, hg1, ht1, hb1⟩
 have hbx := box_row w _ _ _ hb1
 have hset : IsSet w1 (w.heap.size + 1) false noSet := by
  refine (hb1.block (w.heap.size + 1) (by simp)).trans ?_
  exact (heap_alloc2_new w _ _).trans (by kernel_rfl)
 have hB1 : Below w.heap.size w w1 := (((Below.refl _ _).alloc (Nat.le_refl _) _).alloc (by simp) _).trans (hb1.mono (by simp; omega))
 have hz1 : w.heap.size + 1 < w1.heap.size := by have := hb1.size; simp at this; omega
 have hx0 : w1.cell? ⟨w.heap.size, 0, none⟩ = some (.int .i64 lo) := cell_of_row _ _ _ _ _ _ hbx
 have hx1 : w1.cell? ⟨w.heap.size, 1, none⟩ = some (.int .i64 hi) := cell_of_row _ _ _ _ _ _ hbx
 have hx2 : w1.cell? ⟨w.heap.size, 2, none⟩ = some (.int .i64 kind) := cell_of_row _ _ _ _ _ _ hbx
 have hc0 : w1.cell? ⟨g1, 0, none⟩ = some (.string (ba p)) := ht1.at_ 0 _ (by rw [HPB.out]; rfl)
 have hn1 : n1 = ps.length + 1 := by rw [ht1.len, HPB.out]; simp
 have HN := Lib.hid hn1
 have hn0 : 0 < n1 := by omega
 have HSET := Lib.hid hset
 have HBX := Lib.hid hbx
 clear hb1 hbx hset hn1 hg1
 by_cases hmany : 2 < n1
 ·have HX : Hid (rangeS2 val lo hi s.data.toList = none) := by
   have hl := HN.out
   obtain ⟨t, t2, ps', rfl⟩ : ∃ t t2 ps', ps = t :: t2 :: ps' := by
    match ps, hl with
    | [], hl => simp at hl; omega
    | [t], hl => simp at hl; omega
    | t :: t2 :: ps', _ => exact ⟨t, t2, ps', rfl⟩
   exact Lib.hid (rangeS2_many HP.out)
  go_wp2_with (first | (refine wpList_build_set rfl rfl ?_) | (refine wpList_store_set rfl _ _ rfl (w.heap.size + 1) false noSet rfl rfl _ _ HSET.out ?_))
  refine bodyPost_ret (v := .tuple #[.agg (setCells false noSet), .int .i64 0]) ?_ rfl ?_
  ·exact results_set (fn := Tryz.f58) (p := 4) (u := 5) rfl _ _ (w.heap.size + 1) false noSet rfl (HSET.out.store _ _)
  exact ⟨false, noSet, 0, rfl, item_zero (.inl rfl) (fun _ => HX.out), below_setRow hB1 (by omega) _⟩
 ·obtain ⟨ke, low, high, star, single, v, hke, hsg, hen⟩ := ends2_is val kind HV lo hi (ba p) (HSZ.out p (by rw [HP.out]; simp))
  rw [ba_list] at hsg hen
  have HE := Lib.hid hen
  have HK := Lib.hid hke
  have HSG := Lib.hid hsg
  clear hen hke hsg
  go_upto_region 4 with fail
  obtain ⟨w2, rfl⟩ : ∃ w2 : World, w2 = w1 := ⟨_, rfl⟩
  go_cut [7, 8, 9, 10, 11] (fun v7 v8 v9 v10 v11 wc => v7 = .int .i64 low ∧ v8 = .int .i64 high ∧ v9 = .bool star ∧ v10 = .bool single ∧ v11 = .int .i64 v ∧ Below w2.heap.size w2 wc)
  case first =>
   have HC := Lib.hid (fun w' => spec_cronEnds.calls ke lo hi kind (ba p) low high star single v w' HK.out)
   refine start_ (n := 16) (S := fun w' => w'.cell? ⟨w.heap.size, 0, none⟩ = some (.int .i64 lo) ∧ w'.cell? ⟨w.heap.size, 1, none⟩ = some (.int .i64 hi) ∧ w'.cell? ⟨w.heap.size, 2, none⟩ = some (.int .i64 kind) ∧ w'.cell? ⟨g1, 0, none⟩ = some (.string (ba p))) (ds := []) #[false, false, false, false, false, false, false, false, false, false, false, false, false, false, false, false] (by kernel_rfl) rfl rfl ⟨hx0, hx1, hx2, hc0⟩ (fun hHeld => ?_)
   refine with_tabW rg58_4.tab4 rg58_4.bits4 (fun HT_ HW_ => ?_)
   refine pure_ (i := 1) (N := some 25) (v := ?_) (a' := ?_) #[false, true, false, false, false, false, false, false, false, false, false, false, false, false, false, false] rfl rfl (any_of HT_.out (by kernel_rfl)) (fun _ _ _ h => h) (Or.inl ⟨by rfl, ?_⟩) ?_ ?_
   rotate_left
   ·intro w'
    go_simp
    with_reducible rfl
   rotate_left
   ·simp only [Act.put, List.setIfInBounds_toArray, List.set_cons_zero, List.set_cons_succ, i64_w, i32_w]
    rfl
   refine pure_ (i := 2) (N := some 26) (v := ?_) (a' := ?_) #[false, true, true, false, false, false, false, false, false, false, false, false, false, false, false, false] rfl rfl (any_of HT_.out (by kernel_rfl)) (fun _ _ _ h => h) (Or.inl ⟨by rfl, ?_⟩) ?_ ?_
   rotate_left
   ·intro w'
    go_simp
    with_reducible rfl
   rotate_left
   ·simp only [Act.put, List.setIfInBounds_toArray, List.set_cons_zero, List.set_cons_succ, i64_w, i32_w]
    rfl
   refine take_ (i := 0) (N := some 24) (v := ?_) (a' := ?_) #[true, true, true, false, false, false, false, false, false, false, false, false, false, false, false, false] rfl rfl (take_ofW HT_.out HW_.out (by kernel_rfl)) (fun _ _ _ h => h) (Or.inl ⟨by rfl, ?_⟩) hHeld ?_ ?_
   rotate_left
   ·rintro w' ⟨s0, s1, s2, s3⟩
    go_simp
    with_reducible rfl
   rotate_left
   ·simp only [Act.put, List.setIfInBounds_toArray, List.set_cons_zero, List.set_cons_succ, i64_w, i32_w]
    rfl
   refine take_ (i := 3) (N := some 27) (v := ?_) (a' := ?_) #[true, true, true, true, false, false, false, false, false, false, false, false, false, false, false, false] rfl rfl (take_ofW HT_.out HW_.out (by kernel_rfl)) (fun _ _ _ h => h) (Or.inl ⟨by rfl, ?_⟩) hHeld ?_ ?_
   rotate_left
   ·rintro w' ⟨s0, s1, s2, s3⟩
    go_simp
    with_reducible rfl
   rotate_left
   ·simp only [Act.put, List.setIfInBounds_toArray, List.set_cons_zero, List.set_cons_succ, i64_w, i32_w]
    rfl
   refine one_ (i := 4) (N := some 28) #[true, true, true, true, true, false, false, false, false, false, false, false, false, false, false, false] rfl rfl (one_of HT_.out (by kernel_rfl)) (by decide) (fun K hK => ?_)
   refine goes_ Tryz.func120 (by kernel_rfl) rfl #[.agg #[.int .i64 lo, .int .i64 hi, .int .i64 kind], .string (ba p)] (by rfl) rfl rfl (by simp only [List.map_toArray, List.map_cons, List.map_nil]; rfl) ?_
   with_reducible refine (HC.out _).mono ?_
   rintro e w3 ⟨rfl, hb3⟩
   refine ⟨_, rfl, ?_⟩
   refine hK.out _ _ ⟨(hb3.cell (p := ⟨w.heap.size, 0, none⟩) (by show w.heap.size < w2.heap.size; omega)).trans hx0, (hb3.cell (p := ⟨w.heap.size, 1, none⟩) (by show w.heap.size < w2.heap.size; omega)).trans hx1, (hb3.cell (p := ⟨w.heap.size, 2, none⟩) (by show w.heap.size < w2.heap.size; omega)).trans hx2, (hb3.cell (p := ⟨g1, 0, none⟩) ht1.lt).trans hc0⟩ (fun hHeld => ?_)
   clear hK K
   refine norm_ (a' := ?_) ?_ ?_
   rotate_left
   ·show Act.put _ (some 28) _ = _
    simp only [Act.put, List.setIfInBounds_toArray, List.set_cons_zero, List.set_cons_succ, i64_w, i32_w]
    rfl
   refine pure_ (i := 5) (N := some 23) (v := ?_) (a' := ?_) #[true, true, true, true, true, true, false, false, false, false, false, false, false, false, false, false] rfl rfl (any_of HT_.out (by kernel_rfl)) (fun _ _ _ h => h) (Or.inl ⟨by rfl, ?_⟩) ?_ ?_
   rotate_left
   ·intro w'
    go_simp
    with_reducible rfl
   rotate_left
   ·simp only [Act.put, List.setIfInBounds_toArray, List.set_cons_zero, List.set_cons_succ, i64_w, i32_w]
    rfl
   refine pure_ (i := 6) (N := some 29) (v := ?_) (a' := ?_) #[true, true, true, true, true, true, true, false, false, false, false, false, false, false, false, false] rfl rfl (any_of HT_.out (by kernel_rfl)) (fun _ _ _ h => h) (Or.inl ⟨by rfl, ?_⟩) ?_ ?_
   rotate_left
   ·intro w'
    go_simp
    with_reducible rfl
   rotate_left
   ·simp only [Act.put, List.setIfInBounds_toArray, List.set_cons_zero, List.set_cons_succ, i64_w, i32_w]
    rfl
   refine pure_ (i := 7) (N := some 30) (v := ?_) (a' := ?_) #[true, true, true, true, true, true, true, true, false, false, false, false, false, false, false, false] rfl rfl (any_of HT_.out (by kernel_rfl)) (fun _ _ _ h => h) (Or.inl ⟨by rfl, ?_⟩) ?_ ?_
   rotate_left
   ·intro w'
    go_simp
    with_reducible rfl
   rotate_left
   ·simp only [Act.put, List.setIfInBounds_toArray, List.set_cons_zero, List.set_cons_succ, i64_w, i32_w]
    rfl
   refine pure_ (i := 8) (N := some 31) (v := ?_) (a' := ?_) #[true, true, true, true, true, true, true, true, true, false, false, false, false, false, false, false] rfl rfl (any_of HT_.out (by kernel_rfl)) (fun _ _ _ h => h) (Or.inl ⟨by rfl, ?_⟩) ?_ ?_
   rotate_left
   ·intro w'
    go_simp
    with_reducible rfl
   rotate_left
   ·simp only [Act.put, List.setIfInBounds_toArray, List.set_cons_zero, List.set_cons_succ, i64_w, i32_w]
    rfl
   refine pure_ (i := 9) (N := some 32) (v := ?_) (a' := ?_) #[true, true, true, true, true, true, true, true, true, true, false, false, false, false, false, false] rfl rfl (any_of HT_.out (by kernel_rfl)) (fun _ _ _ h => h) (Or.inl ⟨by rfl, ?_⟩) ?_ ?_
   rotate_left
   ·intro w'
    go_simp
    with_reducible rfl
   rotate_left
   ·simp only [Act.put, List.setIfInBounds_toArray, List.set_cons_zero, List.set_cons_succ, i64_w, i32_w]
    rfl
   refine pure_ (i := 10) (N := some 33) (v := ?_) (a' := ?_) #[true, true, true, true, true, true, true, true, true, true, true, false, false, false, false, false] rfl rfl (any_of HT_.out (by kernel_rfl)) (fun _ _ _ h => h) (Or.inl ⟨by rfl, ?_⟩) ?_ ?_
   rotate_left
   ·intro w'
    go_simp
    with_reducible rfl
   rotate_left
   ·simp only [Act.put, List.setIfInBounds_toArray, List.set_cons_zero, List.set_cons_succ, i64_w, i32_w]
    rfl
   refine pure_ (i := 11) (N := some 7) (v := ?_) (a' := ?_) #[true, true, true, true, true, true, true, true, true, true, true, true, false, false, false, false] rfl rfl (any_of HT_.out (by kernel_rfl)) (fun _ _ _ h => h) (Or.inl ⟨by rfl, ?_⟩) ?_ ?_
   rotate_left
   ·intro w'
    go_simp
    with_reducible rfl
   rotate_left
   ·simp only [Act.put, List.setIfInBounds_toArray, List.set_cons_zero, List.set_cons_succ, i64_w, i32_w]
    rfl
   refine pure_ (i := 12) (N := some 8) (v := ?_) (a' := ?_) #[true, true, true, true, true, true, true, true, true, true, true, true, true, false, false, false] rfl rfl (any_of HT_.out (by kernel_rfl)) (fun _ _ _ h => h) (Or.inl ⟨by rfl, ?_⟩) ?_ ?_
   rotate_left
   ·intro w'
    go_simp
    with_reducible rfl
   rotate_left
   ·simp only [Act.put, List.setIfInBounds_toArray, List.set_cons_zero, List.set_cons_succ, i64_w, i32_w]
    rfl
   refine pure_ (i := 13) (N := some 9) (v := ?_) (a' := ?_) #[true, true, true, true, true, true, true, true, true, true, true, true, true, true, false, false] rfl rfl (any_of HT_.out (by kernel_rfl)) (fun _ _ _ h => h) (Or.inl ⟨by rfl, ?_⟩) ?_ ?_
   rotate_left
   ·intro w'
    go_simp
    with_reducible rfl
   rotate_left
   ·simp only [Act.put, List.setIfInBounds_toArray, List.set_cons_zero, List.set_cons_succ, i64_w, i32_w]
    rfl
   refine pure_ (i := 14) (N := some 10) (v := ?_) (a' := ?_) #[true, true, true, true, true, true, true, true, true, true, true, true, true, true, true, false] rfl rfl (any_of HT_.out (by kernel_rfl)) (fun _ _ _ h => h) (Or.inl ⟨by rfl, ?_⟩) ?_ ?_
   rotate_left
   ·intro w'
    go_simp
    with_reducible rfl
   rotate_left
   ·simp only [Act.put, List.setIfInBounds_toArray, List.set_cons_zero, List.set_cons_succ, i64_w, i32_w]
    rfl
   refine pure_ (i := 15) (N := some 11) (v := ?_) (a' := ?_) #[true, true, true, true, true, true, true, true, true, true, true, true, true, true, true, true] rfl rfl (any_of HT_.out (by kernel_rfl)) (fun _ _ _ h => h) (Or.inl ⟨by rfl, ?_⟩) ?_ ?_
   rotate_left
   ·intro w'
    go_simp
    with_reducible rfl
   rotate_left
   ·simp only [Act.put, List.setIfInBounds_toArray, List.set_cons_zero, List.set_cons_succ, i64_w, i32_w]
    rfl
   refine done_ (done_of HT_.out (by kernel_rfl)) ?_
   go_wp2_with fail
   go_meet
   exact ⟨rfl, rfl, rfl, rfl, rfl, (Below.refl _ _).drew.trans hb3⟩
  case rest =>
   obtain ⟨rfl, rfl, rfl, rfl, rfl, hb3⟩ := hcut
   obtain ⟨wo, rfl⟩ : ∃ wo : World, wo = wc := ⟨_, rfl⟩
   have hB3 : Below w.heap.size w wo := below_of_le hB1 hb3
   have hz3 : w.heap.size + 1 < wo.heap.size := Nat.lt_of_lt_of_le hz1 hb3.size
   have hy0 : wo.cell? ⟨w.heap.size, 0, none⟩ = some (.int .i64 lo) := (hb3.cell (p := ⟨w.heap.size, 0, none⟩) (by show w.heap.size < w2.heap.size; omega)).trans hx0
   have hy1 : wo.cell? ⟨w.heap.size, 1, none⟩ = some (.int .i64 hi) := (hb3.cell (p := ⟨w.heap.size, 1, none⟩) (by show w.heap.size < w2.heap.size; omega)).trans hx1
   have HSET3 := Lib.hid (HSET.out.below hb3)
   have ht3 := ht1.below hb3
   clear hx0 hx1 hx2 hc0 HSET HBX ht1 hB1 hz1 hb3 HK
   go_upto_region 6 with fail
   go_upto_if 36 with fail
   go_cut [8, 11, 12] (fun v8 v11 v12 wd => ∃ high' v' step : Int, v8 = .int .i64 high' ∧ v11 = .int .i64 v' ∧ v12 = .int .i64 step ∧ Hid (Mid (rangeS2 val lo hi s.data.toList) lo hi low high' star step v') ∧ Below wo.heap.size wo wd)
   case first =>
    match hps : ps, HN.out, HP.out, HPB.out with
    | [], hl, hp1, _ =>
     have hq : ((n1 : Int) == 2) = false := by rw [hl]; rfl
     go_wp2_with fail
     go_meet
     exact ⟨high, v, 1, rfl, rfl, rfl, Lib.hid (mid2_one hp1 HE.out), Below.refl _ _⟩
    | [t], hl, hp1, hpb =>
     have hq : ((n1 : Int) == 2) = true := by rw [hl]; rfl
     have hq1 : 1 < n1 := by rw [hl]; simp
     have hc1 : wo.cell? ⟨g1, 1, none⟩ = some (.string (ba t)) := ht3.at_ 1 _ (by rw [hpb]; rfl)
     obtain ⟨ks, n, v2, hks, hvs2, hf2, hb2⟩ := step_is (ba t) (HSZ.out t (by rw [hp1]; simp))
     rw [ba_list] at hf2 hb2
     obtain ⟨v3, hw3, hvs3, hw0, hw1, _, _⟩ := worse_f v v2 HE.out.vs hvs2
     have HM := Lib.hid (mid2_two h2 hp1 HSG.out HE.out hvs2 hf2 hb2 hvs3 hw0 hw1)
     have HC1 := Lib.hid (fun w' => spec_CronStep.calls ks (ba t) n v2 w' hks)
     have HC2 := Lib.hid (fun w' => spec_worse.calls v v2 v3 w' hw3)
     have hz3' : w.heap.size < wo.heap.size := by omega
     clear hl hp1 hpb hks hvs2 hf2 hb2 hw3 hvs3 hw0 hw1
     cases single <;> cases star
     all_goals
      go_wp2_with (first | (go_at_call 121; go_must (refine (HC1.out _).mono ?_); rintro e w4 ⟨rfl, hb4⟩; obtain ⟨hl1, hl2⟩ := bcell hb4; have hz4 : w.heap.size < w4.heap.size := Nat.lt_of_lt_of_le hz3' hb4.size) | (go_at_call 57; go_must (refine (HC2.out _).mono ?_); rintro e w5 ⟨rfl, hb5⟩; obtain ⟨hl3, hl4⟩ := bcell hb5))
      go_meet
      exact ⟨_, v3, n, rfl, rfl, rfl, Lib.hid (by simpa using HM.out), below_of_le hb4 hb5⟩
    | t :: t2 :: r, hl, _, _ => exact absurd hl (by simp; omega)
   case rest =>
    obtain ⟨high', v', step, rfl, rfl, rfl, HM, hb4⟩ := hcut
    have hB4 : Below w.heap.size w wc := below_of_le hB3 hb4
    have hz4 : w.heap.size + 1 < wc.heap.size := Nat.lt_of_lt_of_le hz3 hb4.size
    have hd0 : wc.cell? ⟨w.heap.size, 0, none⟩ = some (.int .i64 lo) := (hb4.cell (p := ⟨w.heap.size, 0, none⟩) (by show w.heap.size < wo.heap.size; omega)).trans hy0
    have hd1 : wc.cell? ⟨w.heap.size, 1, none⟩ = some (.int .i64 hi) := (hb4.cell (p := ⟨w.heap.size, 1, none⟩) (by show w.heap.size < wo.heap.size; omega)).trans hy1
    have HS := Lib.hid (HSET3.out.below hb4)
    clear hy0 hy1 HSET3 ht3 hz3 hB3 hb4 HE HSG HP HPB HN HSZ
    by_cases hv : v' = 1
    ·subst hv
     obtain ⟨k, rfl, hk1, hk2, hcore⟩ := HM.out.fine rfl
     clear HM
     -- in or out
     by_cases hout : low < lo ∨ (hi : Int) < high' ∨ high' < low
     ·have HX : Hid (rangeS2 val lo hi s.data.toList = none) := by
       rcases hcore with ⟨_, e1, e2, _⟩ | ⟨_, ra, rb, ha, hb, hr⟩
       ·omega
       ·exact Lib.hid (hr.trans (core_out h2 ha hb hout))
      clear hcore
      by_cases x1 : low < lo
      ·go_wp2_with (first | (refine wpList_build_set rfl rfl ?_) | (refine wpList_store_set rfl _ _ rfl (w.heap.size + 1) false noSet rfl rfl _ _ HS.out ?_))
       refine bodyPost_ret (v := .tuple #[.agg (setCells false noSet), .int .i64 0]) ?_ rfl ?_
       ·exact results_set (fn := Tryz.f58) (p := 4) (u := 5) rfl _ _ (w.heap.size + 1) false noSet rfl (HS.out.store _ _)
       exact ⟨false, noSet, 0, rfl, item_zero (.inl rfl) (fun _ => HX.out), below_setRow hB4 (by omega) _⟩
      ·by_cases x2 : (hi : Int) < high'
       ·go_wp2_with (first | (refine wpList_build_set rfl rfl ?_) | (refine wpList_store_set rfl _ _ rfl (w.heap.size + 1) false noSet rfl rfl _ _ HS.out ?_))
        refine bodyPost_ret (v := .tuple #[.agg (setCells false noSet), .int .i64 0]) ?_ rfl ?_
        ·exact results_set (fn := Tryz.f58) (p := 4) (u := 5) rfl _ _ (w.heap.size + 1) false noSet rfl (HS.out.store _ _)
        exact ⟨false, noSet, 0, rfl, item_zero (.inl rfl) (fun _ => HX.out), below_setRow hB4 (by omega) _⟩
       ·have x3 : high' < low := by omega
        clear hout
        go_wp2_with (first | (refine wpList_build_set rfl rfl ?_) | (refine wpList_store_set rfl _ _ rfl (w.heap.size + 1) false noSet rfl rfl _ _ HS.out ?_))
        refine bodyPost_ret (v := .tuple #[.agg (setCells false noSet), .int .i64 0]) ?_ rfl ?_
        ·exact results_set (fn := Tryz.f58) (p := 4) (u := 5) rfl _ _ (w.heap.size + 1) false noSet rfl (HS.out.store _ _)
        exact ⟨false, noSet, 0, rfl, item_zero (.inl rfl) (fun _ => HX.out), below_setRow hB4 (by omega) _⟩
     ·obtain ⟨a, b, rfl, rfl, hab, hbh, hX⟩ : ∃ a b : Nat, low = a ∧ high' = b ∧ a ≤ b ∧ b ≤ hi ∧ rangeS2 val lo hi s.data.toList = some (setBits (star && (k == 1)) (stepSet a b k)) := by
       rcases hcore with ⟨e0, e1, e2, hr⟩ | ⟨e0, ra, rb, ha, hb, hr⟩
       ·refine ⟨lo, hi, e1, e2, h1, Nat.le_refl _, ?_⟩
        rw [hr, star_in h1 hk1, e0]
        unfold setBits
        rw [stepSet_bits h2]
        by_cases hk : 1 < k
        ·rw [if_pos hk, show (k == 1) = false by simp; omega]; rfl
        ·rw [if_neg hk, show k = 1 by omega]; rfl
       ·obtain ⟨a, b, ea, eb, hab, hbh, hc⟩ := core_in (lo := lo) h2 ha hb (by omega) (by omega) (by omega) hk1
        refine ⟨a, b, ea, eb, hab, hbh, ?_⟩
        rw [hr, hc, e0]
        unfold setBits
        rw [stepSet_bits (by omega)]
        rfl
      have HX := Lib.hid hX
      have ho1 : (lo : Int) ≤ a := by omega
      have ho2 : (b : Int) ≤ hi := by omega
      have ho3 : (a : Int) ≤ b := by omega
      clear hcore hX hout
      go_wp2_with fail
      have hsz0 : w.heap.size + 1 < wc.heap.size := hz4
      go_loopw [16] (fun v16 wr => ∃ n : Nat, v16 = .int .i64 n ∧ a ≤ n ∧ n ≤ b + 1 ∧ Hid (IsSet wr wc.heap.size false (fun i => stepSet a b k i && decide (i < n))) ∧ Hid (IsSet wr (w.heap.size + 1) false noSet) ∧ Below w.heap.size w wr) (fun v16 _ => b + 1 - (intOf v16).toNat)
      case atStart =>
       refine ⟨a, rfl, Nat.le_refl _, by omega, Lib.hid ?_, Lib.hid ?_, ?_⟩
       ·refine (heap_alloc_new wc _).trans ?_
        rw [stepSet_start]
        kernel_rfl
       ·exact HS.out.below ((Below.refl _ _).alloc (Nat.le_refl _) _)
       ·exact hB4.alloc (by omega) _
      case round =>
       obtain ⟨n, rfl, hna, hnb, HI, HR, hBr⟩ := hrel
       by_cases hle : n ≤ b
       ·have hc := HI.out.cellAt n (by omega)
        have hf := HI.out.free (n + 1)
        have hc2 : wr.cell? ⟨wc.heap.size, 1 + n, none⟩ = some (.bool (stepSet a b k n && decide (n < n))) := by rw [Nat.add_comm]; exact hc
        have hf2 : wr.frozen? ⟨wc.heap.size, 1 + n, none⟩ = false := by rw [Nat.add_comm]; exact hf
        have hlt63 : n < 63 := by omega
        clear hc hf
        have hmod : (((n : Int) - a) % k == 0) = ((n - a) % k == 0) := by
         rw [show ((n : Int) - a) = ((n - a : Nat) : Int) by omega]
         rw [Bool.eq_iff_iff]
         simp only [beq_iff_eq]
         omega
        have hp0 : (0 : Int) ≤ (n : Int) - a := by omega
        go_wp2_with fail
        go_roundw
        case rel =>
         refine ⟨n + 1, by go_num, by omega, by omega, Lib.hid ?_, Lib.hid ?_, ?_⟩
         ·have h := HI.out.put n hlt63 ((n - a) % k == 0)
          rw [stepSet_next hna hle, Nat.add_comm n 1] at h
          rw [Nat.add_comm n 1]
          exact h
         ·exact HR.out.other (by show w.heap.size + 1 ≠ wc.heap.size; omega) _
         ·exact hBr.setCell (by show w.heap.size ≤ wc.heap.size; omega) _
        case measure => simp [intOf]; omega
       ·have he := HI.out
        rw [stepSet_end (show b < n by omega)] at he
        have hc := he.cell0
        have hf := he.free 0
        have hk1' : ((k : Int) == 1) = (k == 1) := by
         rw [Bool.eq_iff_iff]
         simp only [beq_iff_eq]
         omega
        cases star with
        | true =>
         have HL := Lib.hid (he.putStar (k == 1))
         have HR2 := Lib.hid (HR.out.other (a := ⟨wc.heap.size, 0, none⟩) (by show w.heap.size + 1 ≠ wc.heap.size; omega) (.bool (k == 1)))
         clear he
         go_wp2_with (first | (refine wpList_load_set rfl _ rfl wc.heap.size (k == 1) (stepSet a b k) rfl HL.out ?_) | (refine wpList_store_set rfl _ _ rfl (w.heap.size + 1) (k == 1) (stepSet a b k) rfl rfl _ _ HR2.out ?_))
         refine bodyPost_ret (v := .tuple #[.agg (setCells (k == 1) (stepSet a b k)), .int .i64 1]) ?_ rfl ?_
         ·exact results_set (fn := Tryz.f58) (p := 4) (u := 5) rfl _ _ (w.heap.size + 1) _ _ rfl (HR2.out.store _ _)
         exact ⟨_, _, 1, rfl, ⟨by omega, fun h => by omega, fun _ => HX.out, fun h => absurd rfl h⟩, below_setRow (hBr.setCell (by show w.heap.size ≤ wc.heap.size; omega) _) (by omega) _⟩
        | false =>
         have HL := Lib.hid (he.putStar false)
         have HR2 := Lib.hid (HR.out.other (a := ⟨wc.heap.size, 0, none⟩) (by show w.heap.size + 1 ≠ wc.heap.size; omega) (.bool false))
         clear he
         go_wp2_with (first | (refine wpList_load_set rfl _ rfl wc.heap.size false (stepSet a b k) rfl HL.out ?_) | (refine wpList_store_set rfl _ _ rfl (w.heap.size + 1) false (stepSet a b k) rfl rfl _ _ HR2.out ?_))
         refine bodyPost_ret (v := .tuple #[.agg (setCells false (stepSet a b k)), .int .i64 1]) ?_ rfl ?_
         ·exact results_set (fn := Tryz.f58) (p := 4) (u := 5) rfl _ _ (w.heap.size + 1) _ _ rfl (HR2.out.store _ _)
         exact ⟨_, _, 1, rfl, ⟨by omega, fun h => by omega, fun _ => HX.out, fun h => absurd rfl h⟩, below_setRow (hBr.setCell (by show w.heap.size ≤ wc.heap.size; omega) _) (by omega) _⟩
    ·have HX : Hid (v' = 0 → rangeS2 val lo hi s.data.toList = none) := Lib.hid HM.out.bad
     have hv0 : v' = 0 ∨ v' = 2 := by rcases HM.out.vs with h | h | h <;> omega
     have hne : (v' != 1) = true := by simpa using hv
     have HV0 := Lib.hid hv0
     clear HM hv hv0
     go_wp2_with (first | (refine wpList_build_set rfl rfl ?_) | (refine wpList_store_set rfl _ _ rfl (w.heap.size + 1) false noSet rfl rfl _ _ HS.out ?_))
     refine bodyPost_ret (v := .tuple #[.agg (setCells false noSet), .int .i64 v']) ?_ rfl ?_
     ·exact results_set (fn := Tryz.f58) (p := 4) (u := 5) rfl _ _ (w.heap.size + 1) false noSet rfl (HS.out.store _ _)
     exact ⟨false, noSet, v', rfl, item_zero HV0.out HX.out, below_setRow hB4 (by omega) _⟩
end Go.Proofs.YtmecbmgfacpecaaGreatDoor.Cron
namespace Go.Proofs.YtmecbmgfacpecaaGreatDoor.Cron
open Go Go.RowKit Go.Proofs.YtmecbmgfacpecaaGreatDoor.Text Go.Proofs.YtmecbmgfacpecaaGreatDoor.Bits
set_option linter.unusedVariables false
theorem union_start (pa pb : Nat → Bool) : (fun j => if j < 0 then pa j || pb j else pa j) = pa := by
 funext j
 simp
theorem union_next (pa pb : Nat → Bool) (n : Nat) : (fun i => if i = n then (pa n || pb n) else (if i < n then pa i || pb i else pa i)) = (fun i => if i < n + 1 then pa i || pb i else pa i) := by
 funext i
 by_cases h : i = n
 ·subst h
  rw [if_pos rfl, if_pos (by omega)]
 ·rw [if_neg h]
  by_cases h2 : i < n
  ·rw [if_pos h2, if_pos (by omega)]
  ·rw [if_neg h2, if_neg (by omega)]
theorem union_end (sa : Bool) (pa pb : Nat → Bool) (n : Nat) (h : 63 ≤ n) : setCells sa (fun j => if j < n then pa j || pb j else pa j) = setCells sa (fun j => pa j || pb j) :=
 setCells_ext fun j hj => by rw [if_pos (by omega)]
theorem results_one {fn : Func} {p : Tmp} (h : fn.results = #[.cell p 56]) (tmps : Array Value) (w : World) (g : Nat) (st : Bool) (q : Nat → Bool)
  (hp : tmps.getD p undef = .pointer (some ⟨g, 0, none⟩)) (hs : IsSet w g st q) :
  (results fn tmps).run Tryz.prog w = .ok (.agg (setCells st q)) w := by
 have hp' : tmps[p]?.getD undef = .pointer (some ⟨g, 0, none⟩) := by simpa using hp
 simp only [results, h]
 simp [asAddr, hp', run_load_set w g st q hs]
set_option maxRecDepth 100000 in
set_option maxHeartbeats 1000000 in
theorem cronUnion_any (sa sb : Bool) (pa pb : Nat → Bool) (w : World) :
  Calls Tryz.prog 59 #[.agg (setCells sa pa), .agg (setCells sb pb)] w fun e w' => e = .returned (.agg (setCells (sa || sb) (fun j => pa j || pb j))) ∧ Below w.heap.size w w' := by
 have hidx := run_index_in pb
 have hboxa := run_box_set sa pa
 have hboxb := run_box_set sb pb
 have hal := run_alloc_set
 go_enter Tryz.func59, Tryz.ntmps59
 go_upto_region 1 with fail
 generalize hW : World.alloc (World.alloc (World.alloc w _) _) _ = wL
 have HA : Hid (IsSet wL w.heap.size sa pa) := Lib.hid (by
  rw [← hW]
  exact (isSet_new w sa pa).below (((Below.refl _ _).alloc (Nat.le_refl _) _).alloc (by simp) _))
 have HB : Hid (IsSet wL (w.heap.size + 1) sb pb) := Lib.hid (by
  rw [← hW]
  have := isSet_new (w.alloc (.cells (setCells sa pa) 56)) sb pb
  rw [show (w.alloc (.cells (setCells sa pa) 56)).heap.size = w.heap.size + 1 by simp] at this
  exact this.below ((Below.refl _ _).alloc (by simp) _))
 have HR : Hid (IsSet wL (w.heap.size + 2) false noSet) := Lib.hid (by
  rw [← hW]
  have := isSet_lit ((w.alloc (.cells (setCells sa pa) 56)).alloc (.cells (setCells sb pb) 56))
  rw [show ((w.alloc (.cells (setCells sa pa) 56)).alloc (.cells (setCells sb pb) 56)).heap.size = w.heap.size + 2 by simp] at this
  exact this)
 have HW : Hid (Below w.heap.size w wL) := Lib.hid (by
  rw [← hW]
  exact (((Below.refl _ _).alloc (Nat.le_refl _) _).alloc (by simp) _).alloc (by simp; omega) _)
 clear hW
 go_wp2_with (refine wpList_load_in rfl _ rfl (w.heap.size + 1) sb pb rfl HB.out ?_)
 go_loopw [9] (fun v9 wr => ∃ n : Nat, v9 = .int .i64 n ∧ n ≤ 63 ∧ Hid (IsSet wr w.heap.size sa (fun j => if j < n then pa j || pb j else pa j)) ∧ Hid (IsSet wr (w.heap.size + 1) sb pb) ∧ Hid (IsSet wr (w.heap.size + 2) false noSet) ∧ Below w.heap.size w wr) (fun v9 _ => 63 - (intOf v9).toNat)
 case atStart => exact ⟨0, rfl, by omega, Lib.hid (by rw [union_start]; exact HA.out), HB, HR, HW.out⟩
 case round =>
  obtain ⟨n, rfl, hn, HA', HB', HR', hbr⟩ := hrel
  clear HA HB HR HW hboxa hboxb hal
  by_cases h : n < 63
  ·have hi := hidx n h
   have hc : wr.cell? ⟨w.heap.size, 1 + n, none⟩ = some (.bool (pa n)) := by
    have := HA'.out.cellAt n h
    rw [if_neg (by omega)] at this
    rw [Nat.add_comm]; exact this
   have hf : wr.frozen? ⟨w.heap.size, 1 + n, none⟩ = false := by rw [Nat.add_comm]; exact HA'.out.free (n + 1)
   have HN := Lib.hid (HA'.out.put n h (pa n || pb n))
   have hunion := union_next pa pb n
   have hne1 : w.heap.size + 1 ≠ w.heap.size := by omega
   have hne2 : w.heap.size + 2 ≠ w.heap.size := by omega
   cases hp : pa n
   all_goals
    rw [hp] at hc
    go_wp2_with fail
    go_roundw
    case rel =>
     refine ⟨n + 1, by go_num, by omega, Lib.hid ?_, Lib.hid (HB'.out.other hne1 _), Lib.hid (HR'.out.other hne2 _), hbr.setCell (Nat.le_refl _) _⟩
     have h1 := HN.out
     rw [hunion, Nat.add_comm n 1, hp] at h1
     rw [Nat.add_comm n 1]
     first | exact h1 | (rw [Nat.add_comm 1 n] at *; simpa using h1)
    case measure => simp [intOf]; omega
  ·have he : IsSet wr w.heap.size sa (fun j => pa j || pb j) := by
    have := HA'.out
    unfold IsSet at this ⊢
    rw [union_end sa pa pb n (by omega)] at this
    exact this
   have hca := he.cell0
   have hfa := he.free 0
   have hcb := HB'.out.cell0
   have hne2 : w.heap.size + 2 ≠ w.heap.size := by omega
   cases sa
   ·have HL := Lib.hid (he.putStar (false || sb))
    have HR2 := Lib.hid (HR'.out.other (a := ⟨w.heap.size, 0, none⟩) hne2 (.bool (false || sb)))
    have HS2 := Lib.hid (HR2.out.store (false || sb) (fun j => pa j || pb j))
    have hb2 : Below w.heap.size w ((wr.setCell ⟨w.heap.size, 0, none⟩ (.bool (false || sb))).setRow (w.heap.size + 2) (setCells (false || sb) (fun j => pa j || pb j))) := below_setRow (hbr.setCell (Nat.le_refl _) _) (by omega) _
    clear he hbr HA' HB'
    go_wp2_with (first | (refine wpList_load_set rfl _ rfl w.heap.size _ (fun j => pa j || pb j) rfl HL.out ?_) | (refine wpList_store_set rfl _ _ rfl (w.heap.size + 2) _ (fun j => pa j || pb j) rfl rfl _ _ HR2.out ?_))
    refine bodyPost_ret (v := .agg (setCells (false || sb) (fun j => pa j || pb j))) ?_ rfl ?_
    ·exact results_one (fn := Tryz.f59) (p := 4) rfl _ _ (w.heap.size + 2) _ _ rfl HS2.out
    exact ⟨rfl, hb2⟩
   ·have HL := Lib.hid (he.putStar (true || sb))
    have HR2 := Lib.hid (HR'.out.other (a := ⟨w.heap.size, 0, none⟩) hne2 (.bool (true || sb)))
    have HS2 := Lib.hid (HR2.out.store (true || sb) (fun j => pa j || pb j))
    have hb2 : Below w.heap.size w ((wr.setCell ⟨w.heap.size, 0, none⟩ (.bool (true || sb))).setRow (w.heap.size + 2) (setCells (true || sb) (fun j => pa j || pb j))) := below_setRow (hbr.setCell (Nat.le_refl _) _) (by omega) _
    clear he hbr HA' HB'
    go_wp2_with (first | (refine wpList_load_set rfl _ rfl w.heap.size _ (fun j => pa j || pb j) rfl HL.out ?_) | (refine wpList_store_set rfl _ _ rfl (w.heap.size + 2) _ (fun j => pa j || pb j) rfl rfl _ _ HR2.out ?_))
    refine bodyPost_ret (v := .agg (setCells (true || sb) (fun j => pa j || pb j))) ?_ rfl ?_
    ·exact results_one (fn := Tryz.f59) (p := 4) rfl _ _ (w.heap.size + 2) _ _ rfl HS2.out
    exact ⟨rfl, hb2⟩
end Go.Proofs.YtmecbmgfacpecaaGreatDoor.Cron
namespace Go.Proofs.YtmecbmgfacpecaaGreatDoor.Cron
open Go Go.RowKit Go.Proofs.YtmecbmgfacpecaaGreatDoor.Text Go.Proofs.YtmecbmgfacpecaaGreatDoor.Bits
set_option linter.unusedVariables false
def upTo (R : List UInt8 → Option Nat) (ps : List (List UInt8)) (i : Nat) : Option Nat := fieldGo R ((ps.take i).filter (· ≠ [])) 0
theorem fieldGo_append (R : List UInt8 → Option Nat) : ∀ (xs ys : List (List UInt8)) (b : Nat), fieldGo R (xs ++ ys) b = (fieldGo R xs b).bind (fieldGo R ys)
 | [], ys, b => rfl
 | x :: xs, ys, b => by
  simp only [List.cons_append, fieldGo]
  cases R x with
  | none => rfl
  | some c => exact fieldGo_append R xs ys _
theorem upTo_empty {R : List UInt8 → Option Nat} {ps : List (List UInt8)} {i : Nat} (h : ps[i]? = some []) : upTo R ps (i + 1) = upTo R ps i := by
 unfold upTo
 rw [List.take_add_one, h]
 simp
theorem upTo_item {R : List UInt8 → Option Nat} {ps : List (List UInt8)} {i : Nat} {x : List UInt8} (h : ps[i]? = some x) (hx : x ≠ []) :
  upTo R ps (i + 1) = (upTo R ps i).bind fun b => (R x).map fun c => b ||| c := by
 unfold upTo
 rw [List.take_add_one, h]
 simp only [Option.toList_some, List.filter_append]
 rw [List.filter_cons_of_pos (by simpa using hx), List.filter_nil, fieldGo_append]
 congr 1
 funext b
 simp only [fieldGo]
 cases R x <;> rfl
theorem setBits_or (sa sb : Bool) (pa pb : Nat → Bool) : setBits (sa || sb) (fun j => pa j || pb j) = setBits sa pa ||| setBits sb pb := by
 unfold setBits
 rw [← mkBits_or]
 apply Nat.eq_of_testBit_eq
 intro j
 cases sa <;> cases sb <;> simp [Nat.testBit_or, Bool.or_assoc, Bool.or_comm, Bool.or_left_comm]
structure FieldMid (r : Option Nat) (star : Bool) (p : Nat → Bool) (v : Int) : Prop where
 vs : v = 0 ∨ v = 1 ∨ v = 2
 bad : v = 0 → r = none
 fine : v = 1 → r = some (setBits star p)
theorem mid_start (R : List UInt8 → Option Nat) (ps : List (List UInt8)) : FieldMid (upTo R ps 0) false noSet 1 := by
 refine ⟨by omega, fun h => by omega, fun _ => ?_⟩
 unfold upTo
 simp only [List.take_zero, List.filter_nil, fieldGo]
 congr 1
theorem mid_empty {R : List UInt8 → Option Nat} {ps : List (List UInt8)} {i : Nat} {star : Bool} {p : Nat → Bool} {v v' : Int} (h : FieldMid (upTo R ps i) star p v) (hx : ps[i]? = some [])
  (hv : v' = 0 ∨ v' = 1 ∨ v' = 2) (h0 : v' = 0 → v = 0 ∨ (2 : Int) = 0) (h1 : v' = 1 → v = 1 ∧ (2 : Int) = 1) : FieldMid (upTo R ps (i + 1)) star p v' := by
 rw [upTo_empty hx]
 exact ⟨hv, fun e => by rcases h0 e with e | e; exact h.bad e; omega, fun e => by have := (h1 e).2; omega⟩
theorem mid_item {R : List UInt8 → Option Nat} {ps : List (List UInt8)} {i : Nat} {star sx : Bool} {p px : Nat → Bool} {v vx v' : Int} {x : List UInt8} (h : FieldMid (upTo R ps i) star p v) (hx : ps[i]? = some x) (hne : x ≠ [])
  (hi : ItemIs (R x) sx px vx) (hv : v' = 0 ∨ v' = 1 ∨ v' = 2) (h0 : v' = 0 → v = 0 ∨ vx = 0) (h1 : v' = 1 → v = 1 ∧ vx = 1) : FieldMid (upTo R ps (i + 1)) (star || sx) (fun j => p j || px j) v' := by
 rw [upTo_item hx hne]
 refine ⟨hv, fun e => ?_, fun e => ?_⟩
 ·rcases h0 e with e | e
  ·rw [h.bad e]; rfl
  ·rw [hi.bad e]
   cases upTo R ps i <;> rfl
 ·obtain ⟨e1, e2⟩ := h1 e
  rw [h.fine e1, hi.fine e2, setBits_or]
  rfl
end Go.Proofs.YtmecbmgfacpecaaGreatDoor.Cron
