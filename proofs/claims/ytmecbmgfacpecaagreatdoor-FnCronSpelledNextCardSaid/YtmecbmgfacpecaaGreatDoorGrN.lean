/- Lemmas and walks on the way to the law, merged by wip/tools/pack.py: SpellT, Takes, SetsOf, SetsOf2, StyleF. Conditions: none. -/
import Derived.Test.YtmecbmgfacpecaaGreatDoorGrK
import Derived.Test.YtmecbmgfacpecaaGreatDoorGrM
import Derived.Lib.Hide
import Derived.Outline
import Derived.Test.YtmecbmgfacpecaaGreatDoorGrE
import Derived.Test.YtmecbmgfacpecaaGreatDoorPrA
namespace Go.Proofs.YtmecbmgfacpecaaGreatDoor.Cron
open Go Go.RowKit Go.Proofs.YtmecbmgfacpecaaGreatDoor.Text Go.Proofs.YtmecbmgfacpecaaGreatDoor.Bits Go.Proofs.YtmecbmgfacpecaaGreatDoorW.PrintWords Go.Proofs.YtmecbmgfacpecaaGreatDoorW.PrintLast Go.Proofs.YtmecbmgfacpecaaGreatDoorW.PrintMore
set_option linter.unusedVariables false
set_option linter.unusedSimpArgs false
def okC (c : UInt8) : Prop := okI c ∨ c = 44
theorem okC_num {c : UInt8} (h : okC c) : (c.toNat = 42 ∨ c.toNat = 44 ∨ c.toNat = 45 ∨ c.toNat = 47 ∨ c.toNat = 63) ∨ (48 ≤ c.toNat ∧ c.toNat ≤ 57) ∨ (65 ≤ c.toNat ∧ c.toNat ≤ 122) := by
 rcases h with (h | h | h | h | h) | h
 ·unfold okV at h
  omega
 all_goals
  subst h
  decide
theorem ne_of_num {c x : UInt8} (h : c.toNat ≠ x.toNat) : c ≠ x := fun e => h (by rw [e])
theorem okC_facts {c : UInt8} (h : okC c) : (c.toNat < 128 ∧ spaceZ c.toNat = false) ∧ c ≠ 61 ∧ c ≠ 64 := by
 have hn := okC_num h
 refine ⟨⟨by omega, ?_⟩, ne_of_num (by rw [show (61 : UInt8).toNat = 61 from rfl]; omega), ne_of_num (by rw [show (64 : UInt8).toNat = 64 from rfl]; omega)⟩
 unfold spaceZ
 rw [decide_eq_false_iff_not]
 omega
theorem blC_facts {c : UInt8} (h : blC c) : c ≠ 61 ∧ c ≠ 64 := by
 refine ⟨?_, ?_⟩ <;> rintro rfl <;> exact absurd h.2 (by decide)
structure WordT (k n : Nat) (l : List UInt8) : Prop where
 field : fieldS (valK k) (loK k) (hiK k) l = some n
 ok : ∀ c ∈ l, okC c
 ne : l ≠ []
 len : l.length ≤ 8000
theorem joinC_facts : ∀ (L : List (List UInt8)), (∀ x ∈ L, x.length ≤ 40 ∧ x ≠ [] ∧ ∀ c ∈ x, okI c) → (joinC L).length ≤ 41 * L.length ∧ (∀ c ∈ joinC L, okC c) ∧ (L ≠ [] → joinC L ≠ [])
 | [], _ => ⟨by simp [joinC], by simp [joinC], fun h => absurd rfl h⟩
 | [x], h => by
  have hx := h x (by simp)
  exact ⟨by simp [joinC]; omega, fun c hc => .inl (hx.2.2 c hc), fun _ => hx.2.1⟩
 | x :: y :: r, h => by
  have hx := h x (by simp)
  obtain ⟨h1, h2, h3⟩ := joinC_facts (y :: r) (fun z hz => h z (List.mem_cons_of_mem _ hz))
  rw [joinC]
  refine ⟨?_, ?_, fun _ => by simp⟩
  ·simp only [List.length_append, List.length_cons] at h1 ⊢
   omega
  ·intro c hc
   rw [List.mem_append, List.mem_cons] at hc
   rcases hc with hc | hc | hc
   ·exact .inl (hx.2.2 c hc)
   ·exact .inr hc
   ·exact h2 c hc
theorem wordT_of {k n : Nat} {L : List (List UInt8)} (h : ItemsT k (loK k) (hiK k) n L) (hne : L ≠ []) (hs : ∀ x ∈ L, x.length ≤ 40) (hl : L.length ≤ 140) : WordT k n (joinC L) := by
 obtain ⟨h1, h2, h3⟩ := joinC_facts L (fun x hx => ⟨hs x hx, (h.all x hx).1, (h.all x hx).2⟩)
 exact ⟨h.field hne, h2, h3 hne, by omega⟩
def TextP (n : Nat → Nat) (j : Nat) (l : List UInt8) : Prop := ∃ ws : List (List UInt8), ws.length = j ∧ TextT ws l ∧ (∀ i, i < j → WordT i (n i) (ws.getD i [])) ∧ l.length ≤ j * 8100 ∧ ∀ c ∈ l, c ≠ 61 ∧ c ≠ 64
theorem textP_zero (n : Nat → Nat) : TextP n 0 [] := ⟨[], rfl, .nil, (fun i h => by omega), by simp, by simp⟩
theorem TextP.add {n : Nat → Nat} {j : Nat} {l b x : List UInt8} (h : TextP n j l) (hb : ∀ c ∈ b, blC c) (hbl : b.length ≤ 10) (hbn : l ≠ [] → b ≠ []) (hx : WordT j (n j) x) : TextP n (j + 1) (l ++ b ++ x) := by
 obtain ⟨ws, h1, h2, h3, h4, h5⟩ := h
 refine ⟨ws ++ [x], by simp [h1], .snoc b x h2 hb (fun hne => hbn (h2.size hne)) hx.ne (fun c hc => (okC_facts (hx.ok c hc)).1), ?_, ?_, ?_⟩
 ·intro i hi
  by_cases e : i < j
  ·rw [List.getD_eq_getElem?_getD, List.getElem?_append_left (by omega), ← List.getD_eq_getElem?_getD]
   exact h3 i e
  ·obtain rfl : i = j := by omega
   rw [List.getD_eq_getElem?_getD, List.getElem?_append_right (by omega), h1, Nat.sub_self]
   exact hx
 ·have := hx.len
  simp only [List.length_append]
  omega
 ·intro c hc
  rw [List.mem_append, List.mem_append] at hc
  rcases hc with (hc | hc) | hc
  ·exact h5 c hc
  ·exact blC_facts (hb c hc)
  ·exact (okC_facts (hx.ok c hc)).2
theorem TextT.nil_of {ws : List (List UInt8)} {l : List UInt8} (h : TextT ws l) (e : ws = []) : l = [] := by
 cases h with
 | nil => rfl
 | snoc => simp at e
theorem TextP.ne {n : Nat → Nat} {j : Nat} {l : List UInt8} (h : TextP n j l) : l ≠ [] ↔ 0 < j := by
 obtain ⟨ws, h1, h2, -⟩ := h
 constructor
 ·intro hl
  rcases Nat.eq_zero_or_pos j with e | e
  ·subst e
   rw [List.length_eq_zero_iff] at h1
   exact absurd (h2.nil_of h1) hl
  ·exact e
 ·intro hj
  exact h2.size (by rintro rfl; simp at h1; omega)
theorem TextP.parse {n : Nat → Nat} {l t : List UInt8} (h : TextP n 6 l) (ht : ∀ c ∈ t, blC c) : parseS (ba (l ++ t)) 125 = some [n 0, n 1, n 2, n 3, n 4, n 5] := by
 obtain ⟨ws, h1, h2, h3, -⟩ := h
 rw [parse_text h2 ht h1]
 have hb : ∀ i, i < 6 → bitsAt (ws.map ba) i = some (n i) := by
  intro i hi
  unfold bitsAt
  rw [show (ws.map ba).getD i ⟨#[]⟩ = ba (ws.getD i []) by
   rw [List.getD_eq_getElem?_getD, List.getElem?_map, List.getD_eq_getElem?_getD]
   cases ws[i]? <;> rfl, ba_list]
  exact (h3 i hi).field
 exact six_some (hb 0 (by omega)) (hb 1 (by omega)) (hb 2 (by omega)) (hb 3 (by omega)) (hb 4 (by omega)) (hb 5 (by omega))
theorem prefix_mem : ∀ {p l : List UInt8}, Lib.hasPrefix l p = true → ∀ x ∈ p, x ∈ l
 | [], l, _, x, hx => by cases hx
 | y :: p, [], h, x, hx => by simp [Lib.hasPrefix] at h
 | y :: p, z :: l, h, x, hx => by
  simp only [Lib.hasPrefix, List.isPrefixOf_cons_cons, Bool.and_eq_true, beq_iff_eq] at h
  rcases List.mem_cons.1 hx with e | hx
  ·rw [e, h.1]; simp
  ·exact List.mem_cons_of_mem _ (prefix_mem (by simpa [Lib.hasPrefix] using h.2) x hx)
theorem TextP.plain {n : Nat → Nat} {l t : List UInt8} (h : TextP n 6 l) (ht : ∀ c ∈ t, blC c) : ∀ c ∈ (ba (l ++ t)).data.toList, c ≠ 61 ∧ c ≠ 64 := by
 obtain ⟨ws, h1, h2, h3, h4, h5⟩ := h
 rw [ba_list]
 intro c hc
 rcases List.mem_append.1 hc with hc | hc
 ·exact h5 c hc
 ·exact blC_facts (ht c hc)
theorem no_prefix {l p : List UInt8} {x : UInt8} (hx : x ∈ p) (h : ∀ c ∈ l, c ≠ x) : Lib.hasPrefix l p = false := by
 cases e : Lib.hasPrefix l p with
 | false => rfl
 | true => exact absurd rfl (h x (prefix_mem e x hx))
end Go.Proofs.YtmecbmgfacpecaaGreatDoor.Cron
namespace Go.Proofs.YtmecbmgfacpecaaGreatDoor.Cron
open Go Go.RowKit Go.Proofs.YtmecbmgfacpecaaGreatDoor.Text Go.Proofs.YtmecbmgfacpecaaGreatDoor.Bits
set_option linter.unusedVariables false
set_option linter.unusedSimpArgs false
def maskK (k : Nat) : Nat := if k = 0 then 3 else if k = 1 then 4 else if k = 2 then 8 else if k = 3 then 16 else if k = 4 then 32 else 192
def takeB (o k : Nat) : Bool := !decide (o &&& maskK k = 0)
theorem neq_zero (x : Nat) : ((x : Int) != 0) = !decide (x = 0) := by
 by_cases h : x = 0
 ·subst h; rfl
 ·rw [decide_eq_false h]
  simpa using h
theorem takes_any (o : Nat) (ho : o < 512) (k : Nat) (hk : k < 6) (w : World) :
  Calls Tryz.prog 78 #[.int .i64 o, .int .i64 k] w fun e w' => e = .returned (.bool (takeB o k)) ∧ Below w.heap.size w w' := by
 have hk6 : k = 0 ∨ k = 1 ∨ k = 2 ∨ k = 3 ∨ k = 4 ∨ k = 5 := by omega
 rcases hk6 with rfl | rfl | rfl | rfl | rfl | rfl
 ·have hand : bits .and .i64 (o : Int) 3 = ((o &&& 3 : Nat) : Int) := and_i64 (b := 3) (by omega) (by decide)
  have e : (((o &&& 3 : Nat) : Int) != 0) = takeB o 0 := neq_zero _
  have E := Lib.hid e
  clear e
  go_enter Tryz.func78, Tryz.ntmps78
  go_wp2_with fail
  go_ret
  refine ⟨?_, (Below.refl _ _).alloc (Nat.le_refl _) _⟩
  simp [hand, E.out]
 ·have hand : bits .and .i64 (o : Int) 4 = ((o &&& 4 : Nat) : Int) := and_i64 (b := 4) (by omega) (by decide)
  have e : (((o &&& 4 : Nat) : Int) != 0) = takeB o 1 := neq_zero _
  have E := Lib.hid e
  clear e
  go_enter Tryz.func78, Tryz.ntmps78
  go_wp2_with fail
  go_ret
  refine ⟨?_, (Below.refl _ _).alloc (Nat.le_refl _) _⟩
  simp [hand, E.out]
 ·have hand : bits .and .i64 (o : Int) 8 = ((o &&& 8 : Nat) : Int) := and_i64 (b := 8) (by omega) (by decide)
  have e : (((o &&& 8 : Nat) : Int) != 0) = takeB o 2 := neq_zero _
  have E := Lib.hid e
  clear e
  go_enter Tryz.func78, Tryz.ntmps78
  go_wp2_with fail
  go_ret
  refine ⟨?_, (Below.refl _ _).alloc (Nat.le_refl _) _⟩
  simp [hand, E.out]
 ·have hand : bits .and .i64 (o : Int) 16 = ((o &&& 16 : Nat) : Int) := and_i64 (b := 16) (by omega) (by decide)
  have e : (((o &&& 16 : Nat) : Int) != 0) = takeB o 3 := neq_zero _
  have E := Lib.hid e
  clear e
  go_enter Tryz.func78, Tryz.ntmps78
  go_wp2_with fail
  go_ret
  refine ⟨?_, (Below.refl _ _).alloc (Nat.le_refl _) _⟩
  simp [hand, E.out]
 ·have hand : bits .and .i64 (o : Int) 32 = ((o &&& 32 : Nat) : Int) := and_i64 (b := 32) (by omega) (by decide)
  have e : (((o &&& 32 : Nat) : Int) != 0) = takeB o 4 := neq_zero _
  have E := Lib.hid e
  clear e
  go_enter Tryz.func78, Tryz.ntmps78
  go_wp2_with fail
  go_ret
  refine ⟨?_, (Below.refl _ _).alloc (Nat.le_refl _) _⟩
  simp [hand, E.out]
 ·have hand : bits .and .i64 (o : Int) 192 = ((o &&& 192 : Nat) : Int) := and_i64 (b := 192) (by omega) (by decide)
  have e : (((o &&& 192 : Nat) : Int) != 0) = takeB o 5 := neq_zero _
  have E := Lib.hid e
  clear e
  go_enter Tryz.func78, Tryz.ntmps78
  go_wp2_with fail
  go_ret
  refine ⟨?_, (Below.refl _ _).alloc (Nat.le_refl _) _⟩
  simp [hand, E.out]
end Go.Proofs.YtmecbmgfacpecaaGreatDoor.Cron
namespace Go.Proofs.YtmecbmgfacpecaaGreatDoor.CronN
open Go Go.RowKit Go.Proofs.YtmecbmgfacpecaaGreatDoor.Text Go.Proofs.YtmecbmgfacpecaaGreatDoor.Bits Go.Proofs.YtmecbmgfacpecaaGreatDoorW.PrintWords Go.Proofs.YtmecbmgfacpecaaGreatDoorW.PrintLast Go.Proofs.YtmecbmgfacpecaaGreatDoorW.PrintMore Go.Proofs.YtmecbmgfacpecaaGreatDoor.Pr Go.Proofs.YtmecbmgfacpecaaGreatDoor.Cal Go.Proofs.YtmecbmgfacpecaaGreatDoor.Cron
open Go.Proofs.YtmecbmgfacpecaaGreatDoor.Sched (wpList_store_at)
set_option linter.unusedVariables false
set_option linter.unusedSimpArgs false
theorem lo_eq {k : Nat} (hk : k < 6) : loF k = loK k := by match k, hk with | 0, _ | 1, _ | 2, _ | 3, _ | 4, _ | 5, _ => rfl
theorem hi_eq {k : Nat} (hk : k < 6) : hiF k = hiK k := by match k, hk with | 0, _ | 1, _ | 2, _ | 3, _ | 4, _ | 5, _ => rfl
def putK (S : Sets) (j b : Nat) : Sets := match j with
 | 0 => { S with sec := b }
 | 1 => { S with min := b }
 | 2 => { S with hour := b }
 | 3 => { S with dom := b }
 | 4 => { S with month := b }
 | _ => { S with dow := b }
theorem bits_put (S : Sets) (j b i : Nat) (hj : j < 6) (hi : i < 6) : bitsK (putK S j b) i = if i = j then b else bitsK S i := by
 match j, hj, i, hi with
 | 0, _, 0, _ | 0, _, 1, _ | 0, _, 2, _ | 0, _, 3, _ | 0, _, 4, _ | 0, _, 5, _ => rfl
 | 1, _, 0, _ | 1, _, 1, _ | 1, _, 2, _ | 1, _, 3, _ | 1, _, 4, _ | 1, _, 5, _ => rfl
 | 2, _, 0, _ | 2, _, 1, _ | 2, _, 2, _ | 2, _, 3, _ | 2, _, 4, _ | 2, _, 5, _ => rfl
 | 3, _, 0, _ | 3, _, 1, _ | 3, _, 2, _ | 3, _, 3, _ | 3, _, 4, _ | 3, _, 5, _ => rfl
 | 4, _, 0, _ | 4, _, 1, _ | 4, _, 2, _ | 4, _, 3, _ | 4, _, 4, _ | 4, _, 5, _ => rfl
 | 5, _, 0, _ | 5, _, 1, _ | 5, _, 2, _ | 5, _, 3, _ | 5, _, 4, _ | 5, _, 5, _ => rfl
theorem setK_bits {S T : Sets} {k : Nat} (h : bitsK S k = bitsK T k) : setK S k = setK T k := by
 unfold setK
 rw [h]
theorem fieldsC_get (S : Sets) (k t : Nat) (hk : k < 6) (ht : t < 64) : (fieldsC S)[k * 64 + t]? = (setK S k)[t]? := by
 unfold fieldsC
 rw [List.getElem?_toArray, rowsK_at S 6 k t hk ht]
theorem fields_put (S : Sets) (j b : Nat) (hj : j < 6) (cs : Array Value) (hc : cs = setK (putK S j b) j) :
  ((fieldsC S).toList.take (j * 64) ++ cs.toList ++ (fieldsC S).toList.drop (j * 64 + cs.size)).toArray = fieldsC (putK S j b) := by
 have hz : cs.size = 64 := by rw [hc]; exact setCells_size _ _
 have hl : (fieldsC S).toList.length = 384 := by rw [Array.length_toList, fieldsC_size]
 have hcl : cs.toList.length = 64 := by rw [Array.length_toList, hz]
 apply Array.ext_getElem?
 intro i
 rw [List.getElem?_toArray, hz]
 by_cases h384 : i < 384
 ·obtain ⟨k, t, rfl, hk, ht⟩ : ∃ k t, i = k * 64 + t ∧ k < 6 ∧ t < 64 := ⟨i / 64, i % 64, by omega, by omega, by omega⟩
  rw [fieldsC_get _ k t hk ht]
  by_cases h1 : k < j
  ·rw [List.append_assoc, List.getElem?_append_left (by rw [List.length_take, hl]; omega), List.getElem?_take_of_lt (by omega), Array.getElem?_toList, fieldsC_get _ k t hk ht, setK_bits (show bitsK (putK S j b) k = bitsK S k by rw [bits_put S j b k hj hk, if_neg (by omega)])]
  ·by_cases h2 : k = j
   ·subst h2
    rw [List.append_assoc, List.getElem?_append_right (by rw [List.length_take, hl]; omega), List.length_take, hl, List.getElem?_append_left (by rw [hcl]; omega), show k * 64 + t - min (k * 64) 384 = t by omega, Array.getElem?_toList, hc]
   ·rw [List.getElem?_append_right (by rw [List.length_append, List.length_take, hl, hcl]; omega), List.length_append, List.length_take, hl, hcl, List.getElem?_drop, show j * 64 + 64 + (k * 64 + t - (min (j * 64) 384 + 64)) = k * 64 + t by omega, Array.getElem?_toList, fieldsC_get _ k t hk ht, setK_bits (show bitsK (putK S j b) k = bitsK S k by rw [bits_put S j b k hj hk, if_neg h2])]
 ·rw [List.getElem?_eq_none (by simp only [List.length_append, List.length_take, List.length_drop, hl, hcl]; omega), Array.getElem?_eq_none (by rw [fieldsC_size]; omega)]
theorem run_index_fields (S : Sets) (k : Nat) (hk : k < 6) (w : World) : (Instr.index 88 (.agg (fieldsC S)) (.int .i64 k)).run Tryz.prog w = .ok (.agg (setK S k)) w := by
 cases hq : Tryz.prog.info? 56 with
 | none => have := setSize; simp [hq] at this
 | some i =>
  have hsz : i.size = 64 := by have := setSize; simpa [hq] using this
  have hagg : (isAgg 56).run Tryz.prog w = .ok true w := by
   unfold isAgg
   rw [Sem.run_bind, run_underlying Tryz.underlying56 w]
   rfl
  have hx : (fieldsC S).extract (k * 64) (k * 64 + 64) = setK S k := by
   apply Array.ext_getElem?
   intro t
   rw [Array.getElem?_extract]
   by_cases ht : t < 64
   ·rw [if_pos (by rw [fieldsC_size]; omega), fieldsC_get S k t hk ht]
   ·rw [if_neg (by omega), Array.getElem?_eq_none (by rw [show (setK S k).size = 64 from setCells_size _ _]; omega)]
  have hp : (part 56 (fieldsC S) (k * 64)).run Tryz.prog w = .ok (.agg (setK S k)) w := by
   unfold part
   simp [Sem.run_bind, hagg, sizeOf, typeInfo, hq, hsz, hx]
  have hlt : (k : Int) < 6 := by omega
  simp [Instr.index, run_underlying Tryz.underlying88, asIntOf, sizeOf, typeInfo, hq, hsz, hp, Sem.run_bind]
  intro h'
  omega
def wholeB (k : Nat) : Nat → Bool := fun v => decide (loK k ≤ v) && decide (v ≤ hiK k)
theorem built_star : Tryz.prog.built 56 [(0, .bool true)] = some (setCells true noSet) := by kernel_rfl
section
variable {ops : Array Oper} {rest : List Oper} {o : Oper} {a : Act} {w : World} {Q : Exit → Act → World → Prop}
theorem wpList_build_star (hg : o.guard = none) (ho : o.op = .build 56 #[(0, .const (.bool true))])
  (h : wpList Tryz.prog ops Q rest (a.put o.dst (.agg (setCells true noSet))) w) : wpList Tryz.prog ops Q (o :: rest) a w := by
 have e : ((#[(0, .const (.bool true))] : Array (Nat × Operand)).map fun (i, x) => (i, a.eval x)).toList = [(0, .bool true)] := by simp [Act.eval]
 refine wpList_build hg 56 #[(0, .const (.bool true))] ho (by rw [e, built_star]; exact Option.isSome_some) ?_
 rw [e, built_star, Option.getD_some]
 exact h
end
set_option maxRecDepth 100000 in
set_option maxHeartbeats 4000000 in
theorem cronWhole_any (k : Nat) (hk : k < 6) (w : World) :
  Calls Tryz.prog 76 #[.int .i64 k] w fun e w' => e = .returned (.agg (setCells true (wholeB k))) ∧ Below w.heap.size w w' := by
 have HL := Lib.hid (fun w' => spec_CronLow.calls k (loK k : Nat) w' (Cron.low_f k))
 have HH := Lib.hid (fun w' => spec_CronHigh.calls k (hiK k : Nat) w' (Cron.high_f k))
 have hlo := loK_1 k
 have hhi := hiK_59 k
 have hal := run_alloc_set
 go_enter Tryz.func76, Tryz.ntmps76
 have HN := Lib.hid (And.intro (setCells2 w) (And.intro ((isSet_new w false noSet).below ((Below.refl _ _).alloc (Nat.le_refl _) (.cells (setCells false noSet) 56))) ((((Below.refl w.heap.size w).alloc (Nat.le_refl _) (.cells (setCells false noSet) 56)).alloc (by simp) (.cells (setCells false noSet) 56)))))
 rw [← lit64] at HN
 go_wp2_with (first | (refine wpList_build_star rfl rfl ?_) | (refine wpList_store_set rfl _ _ rfl (w.heap.size + 1) true noSet rfl rfl false noSet HN.out.1 ?_; generalize hX : World.setRow _ _ _ = wx; have HX := Lib.hid (show IsSet wx (w.heap.size + 1) true noSet ∧ IsSet wx w.heap.size false noSet ∧ Below w.heap.size w wx by rw [← hX]; exact ⟨HN.out.1.store true noSet, HN.out.2.1.row_other (by omega) _, below_setRow HN.out.2.2 (by omega) _⟩); clear hX))
 refine (HL.out _).mono ?_
 rintro e w1 ⟨rfl, hd1⟩
 have HS5 := Lib.hid (HX.out.1.below hd1.below)
 have HS4 := Lib.hid (HX.out.2.1.below hd1.below)
 have HB1 := Lib.hid (below_le HX.out.2.2 hd1.below)
 clear hd1 HX HN
 go_wp2_with fail
 go_loopw [4] (fun v4 wr => ∃ v : Nat, v4 = .int .i64 v ∧ loK k ≤ v ∧ v ≤ hiK k + 1 ∧ Hid (IsSet wr (w.heap.size + 1) true (fun i => decide (loK k ≤ i) && decide (i < v))) ∧ Hid (IsSet wr w.heap.size false noSet) ∧ Below w.heap.size w wr) (fun v4 _ => hiK k + 1 - (intOf v4).toNat)
 case atStart => exact ⟨loK k, rfl, by omega, by unfold loK hiK; (repeat' split) <;> omega, Lib.hid (by
  have e : setCells true noSet = setCells true (fun i => decide (loK k ≤ i) && decide (i < loK k)) := setCells_ext (fun j _ => by unfold noSet; by_cases h : j < loK k <;> simp [h] <;> omega)
  have := HS5.out
  unfold IsSet at *
  rw [← e]
  exact this), HS4, HB1.out⟩
 case round =>
  obtain ⟨v, rfl, hv0, hv1, HS, HS0, hbr⟩ := hrel
  clear HS5 HS4 HB1
  go_wp2_with fail
  refine (HH.out _).mono ?_
  rintro e w2 ⟨rfl, hd2⟩
  have HSb := Lib.hid (HS.out.below hd2.below)
  have HS0b := Lib.hid (HS0.out.below hd2.below)
  have hbr2 := below_le hbr hd2.below
  clear hd2
  by_cases hvh : v ≤ hiK k
  ·have hd : decide ((v : Int) ≤ hiK k) = true := decide_eq_true (by omega)
   have hv63 : (v : Int) < 63 := by omega
   have hvp : (0 : Int) ≤ v := by omega
   have hc := HSb.out.cellAt v (by omega)
   have hfz := HSb.out.free (v + 1)
   rw [Nat.add_comm v 1] at hc hfz
   go_wp2_with fail
   rw [Nat.add_comm 1 v]
   refine ⟨⟨v + 1, by push_cast; rfl, by omega, by omega, Lib.hid ?_, Lib.hid (HS0b.out.other (by show w.heap.size ≠ w.heap.size + 1; omega) _), hbr2.setCell (by show w.heap.size ≤ w.heap.size + 1; omega) _⟩, by simp [intOf]; omega⟩
   have := HSb.out.put v (by omega) true
   have e := setCells_ext (star := true) (p := fun i => if i = v then true else (decide (loK k ≤ i) && decide (i < v))) (q := fun i => decide (loK k ≤ i) && decide (i < v + 1)) (fun j _ => by
    show (if j = v then true else (decide (loK k ≤ j) && decide (j < v))) = (decide (loK k ≤ j) && decide (j < v + 1))
    by_cases hj : j = v
    ·subst hj
     simp [hv0]
    ·rw [if_neg hj, show decide (j < v) = decide (j < v + 1) from decide_eq_decide.2 (by omega)])
   unfold IsSet at *
   rw [← e]
   exact this
  ·have hd : decide ((v : Int) ≤ hiK k) = false := decide_eq_false (by omega)
   obtain rfl : v = hiK k + 1 := by omega
   go_wp2_with (first | (refine wpList_load_set rfl _ rfl (w.heap.size + 1) true _ rfl HSb.out ?_) | (refine wpList_store_set rfl _ _ rfl w.heap.size true _ rfl rfl false noSet HS0b.out ?_))
   have e := setCells_ext (star := true) (p := fun i => decide (loK k ≤ i) && decide (i < hiK k + 1)) (q := wholeB k) (fun j _ => by
    show (decide (loK k ≤ j) && decide (j < hiK k + 1)) = (decide (loK k ≤ j) && decide (j ≤ hiK k))
    rw [show decide (j < hiK k + 1) = decide (j ≤ hiK k) from decide_eq_decide.2 (by omega)])
   rw [e]
   refine bodyPost_ret (v := .agg (setCells true (wholeB k))) ?_ rfl ⟨rfl, ?_⟩
   ·exact results_cell_row (fn := Tryz.f76) (p := 2) rfl _ _ w.heap.size _ _ _ _ rfl (setRow_heap _ _ _ _ _ _ HS0b.out) Tryz.underlying56 rfl (by rw [setSize, setCells_size])
   ·exact below_setRow hbr2 (Nat.le_refl _) _
end Go.Proofs.YtmecbmgfacpecaaGreatDoor.CronN
namespace Go.Proofs.YtmecbmgfacpecaaGreatDoor.CronN
open Go Go.RowKit Go.Proofs.YtmecbmgfacpecaaGreatDoor.Text Go.Proofs.YtmecbmgfacpecaaGreatDoor.Bits Go.Proofs.YtmecbmgfacpecaaGreatDoorW.PrintWords Go.Proofs.YtmecbmgfacpecaaGreatDoorW.PrintLast Go.Proofs.YtmecbmgfacpecaaGreatDoorW.PrintMore Go.Proofs.YtmecbmgfacpecaaGreatDoor.Pr Go.Proofs.YtmecbmgfacpecaaGreatDoor.Cal Go.Proofs.YtmecbmgfacpecaaGreatDoor.Cron
open Go.Proofs.YtmecbmgfacpecaaGreatDoor.Sched (wpList_store_at schSize)
set_option linter.unusedVariables false
set_option linter.unusedSimpArgs false
theorem take_all : ∀ j : Fin 6, takeB 125 j.val = true := by decide
set_option maxRecDepth 100000 in
set_option maxHeartbeats 4000000 in
theorem cronDefaults_any (S : Sets) (w : World) :
  Calls Tryz.prog 77 #[.agg (fieldsC S), .int .i64 125] w fun e w' => e = .returned (.agg (fieldsC S)) ∧ Below w.heap.size w w' := by
 have HT : Hid (∀ (j : Nat) (w' : World), j < 6 → Calls Tryz.prog 78 #[.int .i64 125, .int .i64 j] w' fun e w2 => e = .returned (.bool true) ∧ Below w'.heap.size w' w2) := Lib.hid (fun j w' hj => by
  have := takes_any 125 (by omega) j hj w'
  rw [take_all ⟨j, hj⟩] at this
  exact this)
 go_enter Tryz.func77, Tryz.ntmps77
 go_upto_region 1 with fail
 have HF0 := Lib.hid (show ((w.alloc (.cells (fieldsC S) 88)).alloc (.cells Tryz.zeroCells88 88)).heap[w.heap.size]? = some (.cells (fieldsC S) 88 (0, 0)) from by rw [Below.heap_alloc _ _ _ (by simp)]; exact heap_alloc_new w _)
 have HZ0 := Lib.hid (heap_two w (.cells (fieldsC S) 88) (.cells Tryz.zeroCells88 88))
 have hB0 : Below w.heap.size w ((w.alloc (.cells (fieldsC S) 88)).alloc (.cells Tryz.zeroCells88 88)) := ((Below.refl _ _).alloc (Nat.le_refl _) _).alloc (by simp) _
 go_wp2_with fail
 go_loopw [6] (fun v6 wr => ∃ j : Nat, v6 = .int .i64 j ∧ j ≤ 6 ∧ Hid (wr.heap[w.heap.size]? = some (.cells (fieldsC S) 88 (0, 0))) ∧ Hid (wr.heap[w.heap.size + 1]? = some (.cells Tryz.zeroCells88 88 (0, 0))) ∧ Below w.heap.size w wr) (fun v6 _ => 6 - (intOf v6).toNat)
 case atStart => exact ⟨0, rfl, by omega, HF0, HZ0, hB0⟩
 case round =>
  obtain ⟨j, rfl, hj, HF, HZ, hbr⟩ := hrel
  clear HF0 HZ0 hB0
  by_cases h6 : j < 6
  ·have hd : decide ((j : Int) < 6) = true := decide_eq_true (by omega)
   go_wp2_with fail
   refine (HT.out j _ h6).mono ?_
   rintro e w2 ⟨rfl, hb2⟩
   have HF2 := Lib.hid ((hb2.block _ (Array.getElem?_eq_some_iff.1 HF.out).1).trans HF.out)
   have HZ2 := Lib.hid ((hb2.block _ (Array.getElem?_eq_some_iff.1 HZ.out).1).trans HZ.out)
   have hbr2 := below_le hbr hb2
   clear hb2
   go_wp2_with fail
   go_roundw
   case rel => exact ⟨j + 1, by go_num, by omega, HF2, HZ2, hbr2⟩
   case measure => simp [intOf]; omega
  ·have hd : decide ((j : Int) < 6) = false := decide_eq_false (by omega)
   go_wp2_with (first | (refine wpList_load_row rfl 88 _ rfl w.heap.size rfl _ _ _ _ HF.out Tryz.underlying88 rfl (by rw [fieldsSize, fieldsC_size]) ?_) | (refine wpList_store_row rfl 88 _ _ rfl (w.heap.size + 1) (fieldsC S) rfl rfl 88 _ HZ.out (by rw [fieldsSize, fieldsC_size]) (by rw [fieldsC_size, zeroC_size]) (fieldsC_one S) ?_))
   refine bodyPost_ret (v := .agg (fieldsC S)) ?_ rfl ⟨rfl, ?_⟩
   ·exact results_cell_row (fn := Tryz.f77) (p := 4) rfl _ _ (w.heap.size + 1) _ _ _ _ rfl (setRow_heap _ _ _ _ _ _ HZ.out) Tryz.underlying88 rfl (by rw [fieldsSize, fieldsC_size])
   ·exact below_setRow hbr (by omega) _
def SpellK (S : Sets) (k : Nat) : Prop := ∃ st q, GoodSet k st q ∧ bitsK S k = setN st q
theorem setK_good {S : Sets} {j : Nat} {st : Bool} {q : Nat → Bool} (hj : j < 6) (hq : ∀ v, q v = true → loK j ≤ v ∧ v ≤ hiK j) : setCells st q = setK (putK S j (setN st q)) j := by
 unfold setK
 rw [bits_put S j _ j hj hj, if_pos rfl, show inB (setN st q) 63 = st from setN_star st q]
 refine setCells_ext fun v hv => ?_
 unfold memB
 rw [setN_bit st q v hv, lo_eq hj, hi_eq hj]
 cases h : q v with
 | false => simp
 | true => simp [hq v h]
theorem spellK_put {S : Sets} {j : Nat} {st : Bool} {q : Nat → Bool} (hj : j < 6) (hg : GoodSet j st q) (h : ∀ i, i < j → SpellK S i) : ∀ i, i < j + 1 → SpellK (putK S j (setN st q)) i := by
 intro i hi
 by_cases e : i = j
 ·subst e
  exact ⟨st, q, hg, by rw [bits_put S i _ i hj hj, if_pos rfl]⟩
 ·obtain ⟨st', q', h1, h2⟩ := h i (by omega)
  exact ⟨st', q', h1, by rw [bits_put S j _ i hj (by omega), if_neg e, h2]⟩
theorem empty_no {p : Nat → Bool} (h : emptyB p = false) : ∃ v, p v = true := by
 unfold emptyB eqB at h
 rw [List.all_eq_false] at h
 obtain ⟨v, -, hv⟩ := h
 refine ⟨v, ?_⟩
 unfold noSet at hv
 cases hp : p v with
 | true => rfl
 | false => rw [hp] at hv; exact absurd rfl hv
theorem loK_hiK (k : Nat) : loK k ≤ hiK k := by unfold loK hiK; (repeat' split) <;> omega
theorem good_whole (k : Nat) : GoodSet k true (wholeB k) := by
 have hh := loK_hiK k
 refine ⟨fun j hj => ?_, ⟨loK k, by simp [wholeB, hh]⟩, fun _ j h1 h2 => by simp [wholeB, h1, h2]⟩
 simpa [wholeB] using hj
theorem good_of {k : Nat} {q : Nat → Bool} (h1 : ∀ v, q v = true → loK k ≤ v ∧ v ≤ hiK k) (h2 : ∃ v, q v = true) : GoodSet k false q := ⟨h1, h2, fun h => by cases h⟩
theorem in_low {k : Nat} {p : Nat → Bool} (h : ∀ v, p v = true → loK k ≤ v ∧ v ≤ hiK k) : ∀ v, (fun i => if i = loK k then true else p i) v = true → loK k ≤ v ∧ v ≤ hiK k := by
 intro v hv
 by_cases e : v = loK k
 ·have := loK_hiK k
  omega
 ·exact h v (by simpa [e] using hv)
set_option maxRecDepth 100000 in
set_option maxHeartbeats 16000000 in
theorem cronSetsOf_any (ev : Bool) (d : Int) (S : Sets) (hS : S.ok) (w : World) :
  Calls Tryz.prog 36 #[.agg #[.bool ev, .int .i64 d, .int .u64 (S.sec : Int), .int .u64 (S.min : Int), .int .u64 (S.hour : Int), .int .u64 (S.dom : Int), .int .u64 (S.month : Int), .int .u64 (S.dow : Int)], .int .i64 125] w fun e w' =>
   (∃ S', (∀ k, k < 6 → SpellK S' k) ∧ e = .returned (.agg (fieldsC S'))) ∧ Below w.heap.size w w' := by
 have HFO := Lib.hid (fun w' => fieldsOfE_any ev d S hS w')
 have HDF := Lib.hid (fun S' w' => cronDefaults_any S' w')
 have HE := Lib.hid (fun st p w' => cronEmpty_any st p w')
 have HW := Lib.hid (fun k hk w' => cronWhole_any k hk w')
 have HL := Lib.hid (fun (k : Nat) w' => spec_CronLow.calls k (loK k : Nat) w' (Cron.low_f k))
 go_enter Tryz.func36, Tryz.ntmps36
 go_upto_region 1 with fail
 generalize hCS : (#[.bool ev, .int .i64 d, .int .u64 (S.sec : Int), .int .u64 (S.min : Int), .int .u64 (S.hour : Int), .int .u64 (S.dom : Int), .int .u64 (S.month : Int), .int .u64 (S.dow : Int)] : Array Value) = CS at *
 have hcs8 : CS.size = 8 := by rw [← hCS]; rfl
 have HF0 := Lib.hid (show ((w.alloc (.cells CS 26)).alloc (.cells Tryz.zeroCells88 88)).heap[w.heap.size]? = some (.cells CS 26 (0, 0)) from by rw [Below.heap_alloc _ _ _ (by simp)]; exact heap_alloc_new w _)
 have HZ0 := Lib.hid (heap_two w (.cells CS 26) (.cells Tryz.zeroCells88 88))
 have hB0 : Below w.heap.size w ((w.alloc (.cells CS 26)).alloc (.cells Tryz.zeroCells88 88)) := ((Below.refl _ _).alloc (Nat.le_refl _) _).alloc (by simp) _
 clear hCS
 go_wp2_with (refine wpList_load_row rfl 26 _ rfl w.heap.size rfl _ _ _ _ HF0.out Tryz.underlying26 rfl (by rw [schSize, hcs8]) ?_)
 refine (HFO.out _).mono ?_
 rintro e w1 ⟨rfl, hb1⟩
 have HZ1 := Lib.hid ((hb1.block _ (Array.getElem?_eq_some_iff.1 HZ0.out).1).trans HZ0.out)
 have hB1 := below_le hB0 hb1
 clear hb1 HZ0 HF0 hB0
 have hlt1 : w.heap.size + 1 < w1.heap.size := (Array.getElem?_eq_some_iff.1 HZ1.out).1
 go_wp2_with (first | (refine wpList_store_row rfl 88 _ _ rfl w1.heap.size (fieldsC S) rfl rfl 88 _ (heap_alloc_new w1 _) (by rw [fieldsSize, fieldsC_size]) (by rw [fieldsC_size, zeroC_size]) (fieldsC_one S) ?_; generalize hX : World.setRow _ _ _ = wx; have HX := Lib.hid (show wx.heap[w1.heap.size]? = some (.cells (fieldsC S) 88 (0, 0)) by rw [← hX]; exact setRow_heap _ _ _ _ _ _ (heap_alloc_new w1 _)); have HBX := Lib.hid (show Below w1.heap.size w1 wx by rw [← hX]; exact below_setRow ((Below.refl _ _).alloc (Nat.le_refl _) _) (Nat.le_refl _) _); clear hX) | (refine wpList_load_row rfl 88 _ rfl w1.heap.size rfl _ _ _ _ HX.out Tryz.underlying88 rfl (by rw [fieldsSize, fieldsC_size]) ?_))
 have HZX := Lib.hid ((HBX.out.block _ hlt1).trans HZ1.out)
 have hBX := below_le hB1 HBX.out
 clear HZ1 hB1 HBX
 generalize hR : w1.heap.size = R at *
 clear hR
 go_loopw [12] (fun v12 wr => ∃ (j : Nat) (Sj : Sets), v12 = .int .i64 j ∧ j ≤ 6 ∧ Hid (∀ i, i < j → SpellK Sj i) ∧ Hid (wr.heap[R]? = some (.cells (fieldsC Sj) 88 (0, 0))) ∧ Hid (wr.heap[w.heap.size + 1]? = some (.cells Tryz.zeroCells88 88 (0, 0))) ∧ Below w.heap.size w wr) (fun v12 _ => 6 - (intOf v12).toNat)
 case atStart => exact ⟨0, S, rfl, by omega, Lib.hid (fun i hi => by omega), HX, HZX, hBX⟩
 case round =>
  obtain ⟨j, Sj, rfl, hj, HSP, HR, HZ, hbr⟩ := hrel
  clear HX HZX hBX
  have hRlt : R < wr.heap.size := (Array.getElem?_eq_some_iff.1 HR.out).1
  by_cases h6 : j < 6
  ·have hd : decide ((j : Int) < 6) = true := decide_eq_true (by omega)
   have hjl : (j : Int) < 6 := by omega
   have hj0 : (0 : Int) ≤ j := by omega
   have hix := run_index_fields S j h6
   obtain ⟨st, p, hst, hp⟩ : ∃ st p, setK S j = setCells st p ∧ ∀ v, p v = true → loK j ≤ v ∧ v ≤ hiK j := ⟨_, _, rfl, fun v hv => by
    unfold memB at hv
    rw [lo_eq h6, hi_eq h6] at hv
    simp at hv
    exact ⟨hv.1, hv.2.1⟩⟩
   rw [hst] at hix
   have HP := Lib.hid hp
   have hlo := loK_1 j
   clear hst hp
   go_wp2_with (first | (refine wpList_store_set rfl _ _ rfl wr.heap.size st p rfl rfl false noSet (isSet_lit wr) ?_; generalize hX : World.setRow _ _ _ = wx; have HX := Lib.hid (show IsSet wx wr.heap.size st p by rw [← hX]; exact (isSet_lit wr).store st p); have HBX := Lib.hid (show Below wr.heap.size wr wx by rw [← hX]; exact below_setRow ((Below.refl _ _).alloc (Nat.le_refl _) _) (Nat.le_refl _) _); clear hX) | (refine wpList_load_set rfl _ rfl wr.heap.size st p rfl HX.out ?_))
   refine (HE.out st p _).mono ?_
   rintro e w2 ⟨rfl, hb2⟩
   have HS2 := Lib.hid (HX.out.below hb2)
   have HB2 := Lib.hid (below_le HBX.out hb2)
   clear hb2 HX HBX
   cases he : emptyB p with
   | true =>
    go_wp2_with fail
    refine (HL.out j _).mono ?_
    rintro e w3 ⟨rfl, hd3⟩
    have HS3 := Lib.hid (HS2.out.below hd3.below)
    have HB3 := Lib.hid (below_le HB2.out hd3.below)
    clear hd3 HS2 HB2
    have hl63 : (loK j : Int) < 63 := by omega
    have hl0 : (0 : Int) ≤ loK j := by omega
    have hc := HS3.out.cellAt (loK j) (by omega)
    have hfz := HS3.out.free (loK j + 1)
    rw [Nat.add_comm (loK j) 1] at hc hfz
    go_wp2_with fail
    have HSQ := Lib.hid (show IsSet (w3.setCell ⟨wr.heap.size, 1 + loK j, none⟩ (.bool true)) wr.heap.size st (fun i => if i = loK j then true else p i) by rw [Nat.add_comm 1 (loK j)]; exact HS3.out.put (loK j) (by omega) true)
    have HBQ := Lib.hid (HB3.out.setCell (p := ⟨wr.heap.size, 1 + loK j, none⟩) (by show wr.heap.size ≤ wr.heap.size; omega) (.bool true))
    have HIN := Lib.hid (in_low HP.out)
    have HEX : Hid (∃ v, (fun i => if i = loK j then true else p i) v = true) := Lib.hid ⟨loK j, by simp⟩
    clear hc hfz HS3 HB3
    generalize (fun i => if i = loK j then true else p i) = q at *
    refine (HW.out j h6 _).mono ?_
    rintro e w4 ⟨rfl, hb4⟩
    have HS4 := Lib.hid (HSQ.out.below hb4)
    have HB4 := Lib.hid (below_le HBQ.out hb4)
    clear hb4 HSQ HBQ
    have hs4 : wr.heap.size < w4.heap.size := HS4.out.lt
    cases st with
    | true =>
     go_wp2_with (first | (refine wpList_store_set rfl _ _ rfl w4.heap.size true (wholeB j) rfl rfl false noSet (isSet_lit w4) ?_; generalize hY : World.setRow _ _ _ = wy; have HY := Lib.hid (show IsSet wy w4.heap.size true (wholeB j) by rw [← hY]; exact (isSet_lit w4).store true (wholeB j)); have HSY := Lib.hid (show IsSet wy wr.heap.size true q by rw [← hY]; exact (HS4.out.below ((Below.refl _ _).alloc (Nat.le_refl _) _)).row_other (by omega) _); have HBY := Lib.hid (show Below wr.heap.size wr wy by rw [← hY]; exact below_setRow (HB4.out.alloc (by omega) _) (by omega) _); have hcy := HSY.out.cell0; clear hY) | (refine wpList_load_set rfl _ rfl w4.heap.size true (wholeB j) rfl HY.out ?_) | (refine wpList_store_set rfl _ _ rfl wr.heap.size true (wholeB j) rfl rfl true q HSY.out ?_; generalize hZ : World.setRow _ _ _ = wz; have HZZ := Lib.hid (show IsSet wz wr.heap.size true (wholeB j) by rw [← hZ]; exact HSY.out.store true (wholeB j)); have HBZ := Lib.hid (show Below wr.heap.size wr wz by rw [← hZ]; exact below_setRow HBY.out (Nat.le_refl _) _); have HRZ := Lib.hid ((HBZ.out.block R hRlt).trans HR.out); have HZZ4 := Lib.hid ((HBZ.out.block _ (Array.getElem?_eq_some_iff.1 HZ.out).1).trans HZ.out); clear hZ) | (refine wpList_load_set rfl _ rfl wr.heap.size true (wholeB j) rfl HZZ.out ?_) | (refine wpList_store_at rfl 56 _ _ rfl R (j * 64) (setCells true (wholeB j)) rfl rfl 88 _ HRZ.out (by rw [setSize, setCells_size]) (by rw [fieldsC_size, setCells_size]; omega) (setCells_one _ _) ?_))
     go_roundw
     case rel => exact ⟨j + 1, putK Sj j (setN true (wholeB j)), by go_num, by omega, Lib.hid (spellK_put h6 (good_whole j) HSP.out), Lib.hid (by rw [← List.append_assoc, fields_put Sj j (setN true (wholeB j)) h6 _ (setK_good h6 (good_whole j).inn)]; exact setRow_heap _ _ _ _ _ _ HRZ.out), Lib.hid ((setRow_other _ _ _ _ (by omega)).trans HZZ4.out), below_setRow (below_le hbr HBZ.out) (by omega) _⟩
     case measure => simp [intOf]; omega
    | false =>
     go_wp2_with (first | (refine wpList_store_set rfl _ _ rfl w4.heap.size true (wholeB j) rfl rfl false noSet (isSet_lit w4) ?_; generalize hY : World.setRow _ _ _ = wz; have HSY := Lib.hid (show IsSet wz wr.heap.size false q by rw [← hY]; exact (HS4.out.below ((Below.refl _ _).alloc (Nat.le_refl _) _)).row_other (by omega) _); have HBZ := Lib.hid (show Below wr.heap.size wr wz by rw [← hY]; exact below_setRow (HB4.out.alloc (by omega) _) (by omega) _); have hcy := HSY.out.cell0; have HRZ := Lib.hid ((HBZ.out.block R hRlt).trans HR.out); have HZZ4 := Lib.hid ((HBZ.out.block _ (Array.getElem?_eq_some_iff.1 HZ.out).1).trans HZ.out); clear hY) | (refine wpList_load_set rfl _ rfl wr.heap.size false q rfl HSY.out ?_) | (refine wpList_store_at rfl 56 _ _ rfl R (j * 64) (setCells false q) rfl rfl 88 _ HRZ.out (by rw [setSize, setCells_size]) (by rw [fieldsC_size, setCells_size]; omega) (setCells_one _ _) ?_))
     go_roundw
     case rel => exact ⟨j + 1, putK Sj j (setN false q), by go_num, by omega, Lib.hid (spellK_put h6 (good_of HIN.out HEX.out) HSP.out), Lib.hid (by rw [← List.append_assoc, fields_put Sj j (setN false q) h6 _ (setK_good h6 HIN.out)]; exact setRow_heap _ _ _ _ _ _ HRZ.out), Lib.hid ((setRow_other _ _ _ _ (by omega)).trans HZZ4.out), below_setRow (below_le hbr HBZ.out) (by omega) _⟩
     case measure => simp [intOf]; omega
   | false =>
    go_wp2_with fail
    have HSQ := HS2
    have HBQ := HB2
    have HIN := HP
    have HEX := Lib.hid (empty_no he)
    clear HS2 HB2
    generalize p = q at *
    refine (HW.out j h6 _).mono ?_
    rintro e w4 ⟨rfl, hb4⟩
    have HS4 := Lib.hid (HSQ.out.below hb4)
    have HB4 := Lib.hid (below_le HBQ.out hb4)
    clear hb4 HSQ HBQ
    have hs4 : wr.heap.size < w4.heap.size := HS4.out.lt
    cases st with
    | true =>
     go_wp2_with (first | (refine wpList_store_set rfl _ _ rfl w4.heap.size true (wholeB j) rfl rfl false noSet (isSet_lit w4) ?_; generalize hY : World.setRow _ _ _ = wy; have HY := Lib.hid (show IsSet wy w4.heap.size true (wholeB j) by rw [← hY]; exact (isSet_lit w4).store true (wholeB j)); have HSY := Lib.hid (show IsSet wy wr.heap.size true q by rw [← hY]; exact (HS4.out.below ((Below.refl _ _).alloc (Nat.le_refl _) _)).row_other (by omega) _); have HBY := Lib.hid (show Below wr.heap.size wr wy by rw [← hY]; exact below_setRow (HB4.out.alloc (by omega) _) (by omega) _); have hcy := HSY.out.cell0; clear hY) | (refine wpList_load_set rfl _ rfl w4.heap.size true (wholeB j) rfl HY.out ?_) | (refine wpList_store_set rfl _ _ rfl wr.heap.size true (wholeB j) rfl rfl true q HSY.out ?_; generalize hZ : World.setRow _ _ _ = wz; have HZZ := Lib.hid (show IsSet wz wr.heap.size true (wholeB j) by rw [← hZ]; exact HSY.out.store true (wholeB j)); have HBZ := Lib.hid (show Below wr.heap.size wr wz by rw [← hZ]; exact below_setRow HBY.out (Nat.le_refl _) _); have HRZ := Lib.hid ((HBZ.out.block R hRlt).trans HR.out); have HZZ4 := Lib.hid ((HBZ.out.block _ (Array.getElem?_eq_some_iff.1 HZ.out).1).trans HZ.out); clear hZ) | (refine wpList_load_set rfl _ rfl wr.heap.size true (wholeB j) rfl HZZ.out ?_) | (refine wpList_store_at rfl 56 _ _ rfl R (j * 64) (setCells true (wholeB j)) rfl rfl 88 _ HRZ.out (by rw [setSize, setCells_size]) (by rw [fieldsC_size, setCells_size]; omega) (setCells_one _ _) ?_))
     go_roundw
     case rel => exact ⟨j + 1, putK Sj j (setN true (wholeB j)), by go_num, by omega, Lib.hid (spellK_put h6 (good_whole j) HSP.out), Lib.hid (by rw [← List.append_assoc, fields_put Sj j (setN true (wholeB j)) h6 _ (setK_good h6 (good_whole j).inn)]; exact setRow_heap _ _ _ _ _ _ HRZ.out), Lib.hid ((setRow_other _ _ _ _ (by omega)).trans HZZ4.out), below_setRow (below_le hbr HBZ.out) (by omega) _⟩
     case measure => simp [intOf]; omega
    | false =>
     go_wp2_with (first | (refine wpList_store_set rfl _ _ rfl w4.heap.size true (wholeB j) rfl rfl false noSet (isSet_lit w4) ?_; generalize hY : World.setRow _ _ _ = wz; have HSY := Lib.hid (show IsSet wz wr.heap.size false q by rw [← hY]; exact (HS4.out.below ((Below.refl _ _).alloc (Nat.le_refl _) _)).row_other (by omega) _); have HBZ := Lib.hid (show Below wr.heap.size wr wz by rw [← hY]; exact below_setRow (HB4.out.alloc (by omega) _) (by omega) _); have hcy := HSY.out.cell0; have HRZ := Lib.hid ((HBZ.out.block R hRlt).trans HR.out); have HZZ4 := Lib.hid ((HBZ.out.block _ (Array.getElem?_eq_some_iff.1 HZ.out).1).trans HZ.out); clear hY) | (refine wpList_load_set rfl _ rfl wr.heap.size false q rfl HSY.out ?_) | (refine wpList_store_at rfl 56 _ _ rfl R (j * 64) (setCells false q) rfl rfl 88 _ HRZ.out (by rw [setSize, setCells_size]) (by rw [fieldsC_size, setCells_size]; omega) (setCells_one _ _) ?_))
     go_roundw
     case rel => exact ⟨j + 1, putK Sj j (setN false q), by go_num, by omega, Lib.hid (spellK_put h6 (good_of HIN.out HEX.out) HSP.out), Lib.hid (by rw [← List.append_assoc, fields_put Sj j (setN false q) h6 _ (setK_good h6 HIN.out)]; exact setRow_heap _ _ _ _ _ _ HRZ.out), Lib.hid ((setRow_other _ _ _ _ (by omega)).trans HZZ4.out), below_setRow (below_le hbr HBZ.out) (by omega) _⟩
     case measure => simp [intOf]; omega
  ·obtain rfl : j = 6 := by omega
   have hd : decide (((6 : Nat) : Int) < 6) = false := rfl
   go_wp2_with (refine wpList_load_row rfl 88 _ rfl R rfl _ _ _ _ HR.out Tryz.underlying88 rfl (by rw [fieldsSize, fieldsC_size]) ?_)
   refine (HDF.out Sj _).mono ?_
   rintro e w2 ⟨rfl, hb2⟩
   have HZ2 := Lib.hid ((hb2.block _ (Array.getElem?_eq_some_iff.1 HZ.out).1).trans HZ.out)
   have hbr2 := below_le hbr hb2
   clear hb2
   go_wp2_with (refine wpList_store_row rfl 88 _ _ rfl (w.heap.size + 1) (fieldsC Sj) rfl rfl 88 _ HZ2.out (by rw [fieldsSize, fieldsC_size]) (by rw [fieldsC_size, zeroC_size]) (fieldsC_one Sj) ?_)
   refine bodyPost_ret (v := .agg (fieldsC Sj)) ?_ rfl ⟨⟨Sj, HSP.out, rfl⟩, ?_⟩
   ·exact results_cell_row (fn := Tryz.f36) (p := 4) rfl _ _ (w.heap.size + 1) _ _ _ _ rfl (setRow_heap _ _ _ _ _ _ HZ2.out) Tryz.underlying88 rfl (by rw [fieldsSize, fieldsC_size])
   ·exact below_setRow hbr2 (by omega) _
end Go.Proofs.YtmecbmgfacpecaaGreatDoor.CronN
namespace Go.Proofs.YtmecbmgfacpecaaGreatDoor.Cron
open Go Go.RowKit Go.Proofs.YtmecbmgfacpecaaGreatDoor.Text Go.Proofs.YtmecbmgfacpecaaGreatDoor.Bits Go.Proofs.YtmecbmgfacpecaaGreatDoorW.PrintWords Go.Proofs.YtmecbmgfacpecaaGreatDoorW.PrintLast Go.Proofs.YtmecbmgfacpecaaGreatDoorW.PrintMore Go.Proofs.YtmecbmgfacpecaaGreatDoor.Pr Go.Proofs.YtmecbmgfacpecaaGreatDoor.Cal
set_option linter.unusedVariables false
set_option linter.unusedSimpArgs false
theorem c_strs {w : World} {base b cap : Nat} {L : List (List UInt8)} (h : w.ownsRow base 9 1 (.slice (some ⟨b, 0, none⟩) L.length cap) L.length (strs L)) (hl : L.length ≤ 140) : Kd.C Kd.string w (some ⟨b, 0, none⟩) (L.map ba).length (L.map ba) :=
 ⟨rfl, by rw [List.length_map]; omega, fun _ => ⟨⟨b, 0, none⟩, rfl, fun j p hp => ⟨[.string p], rfl, rfl, fun i u hu => by
  cases i with
  | succ i => cases hu
  | zero =>
   obtain rfl : u = .string p := by simpa using hu.symm
   have hj : j < L.length := by have := (List.getElem?_eq_some_iff.1 hp).1; rwa [List.length_map] at this
   have e : (⟨b, 0, none⟩ : Addr).add (j * Kd.string.sz + 0) = ⟨b, j, none⟩ := by
    have : Kd.string.sz = 1 := rfl
    rw [this]
    cases j with
    | zero => rfl
    | succ j => simp [Addr.add]
   rw [e, h.cellAt j (by omega)]
   rw [List.getElem?_map] at hp
   unfold strs
   rw [List.getElem?_map]
   cases hx : L[j]? with
   | none => rw [hx] at hp; cases hp
   | some x =>
    rw [hx] at hp
    simp at hp
    rw [← hp]
    rfl⟩⟩⟩
theorem own_cap' {w : World} {base b cap n : Nat} {e : TypeId} {xs : List Value} (h : w.ownsRow base e 1 (.slice (some ⟨b, 0, none⟩) n cap) n xs) : n ≤ cap := own_cap h
set_option maxRecDepth 100000 in
set_option maxHeartbeats 4000000 in
theorem fieldText_any {w0 w : World} {g : Nat} (hs : Sty w0 w g) (k : Nat) (hk : k < 6) (st : Bool) (p : Nat → Bool) (hg : GoodSet k st p) :
  Calls Tryz.prog 83 #[.int .i64 k, .agg (setCells st p), .pointer (some ⟨g, 0, none⟩)] w fun e w' => ∃ l, WordT k (setN st p) l ∧ e = .returned (.string (ba l)) ∧ StyTo w0 w g w' := by
 have hbx := run_box_set st p
 have HS0 := Lib.hid (isSet_new w st p)
 have HST0 := Lib.hid (hs.below ((Below.refl w.heap.size w).alloc (Nat.le_refl _) (.cells (setCells st p) 56)))
 have HT := Lib.hid (fun w' (h0 : Sty w0 w' g) => itemTexts_any h0 k hk st p hg)
 clear hs
 go_enter Tryz.func83, Tryz.ntmps83
 go_wp2_with (refine wpList_load_set rfl _ rfl w.heap.size st p rfl HS0.out ?_)
 refine (HT.out _ HST0.out.1).mono ?_
 rintro e w1 ⟨b, cap, L, rfl, hL, hne, hsh, hlen, hrow, hst1⟩
 have HST1 := Lib.hid (HST0.out.trans hst1)
 obtain ⟨kf, hkf⟩ := joinC_f L hsh (by omega)
 have HC := Lib.hid (c_strs hrow (by omega))
 have hcap := own_cap' hrow
 have HJ := Lib.hid (spec_CronJoin.calls kf (some ⟨b, 0, none⟩) cap (L.map ba) ⟨#[44]⟩ (ba (joinC L)) w1 HC.out (by rw [List.length_map]; exact hcap) hkf)
 rw [List.length_map] at HJ
 have HW := Lib.hid (wordT_of hL hne hsh (by omega))
 clear hL hne hsh hrow hst1 HST0 HC hkf
 go_wp2_with fail
 refine HJ.out.mono ?_
 rintro e w2 ⟨rfl, hd2⟩
 have HST2 := Lib.hid (HST1.out.below hd2.below)
 clear hd2
 go_wp2_with fail
 go_ret
 exact ⟨joinC L, HW.out, rfl, HST2.out⟩
theorem setK_spell {S : Sets} {k : Nat} (hk : k < 6) (h : CronN.SpellK S k) : ∃ st q, GoodSet k st q ∧ CronN.bitsK S k = setN st q ∧ CronN.setK S k = setCells st q := by
 obtain ⟨st, q, hg, hb⟩ := h
 refine ⟨st, q, hg, hb, ?_⟩
 show CronN.setK S k = CronN.setCells st q
 rw [CronN.setK_good (S := S) hk hg.inn, CronN.setK_bits (S := CronN.putK S k (setN st q)) (T := S)]
 rw [CronN.bits_put S k _ k hk hk, if_pos rfl, hb]
theorem mayMiss_f : spec_CronMayMiss.f 125 = some (-1) := by decide
def txt (l : List UInt8) : Value := .string (ba l)
theorem ba_ne {l : List UInt8} (h : l ≠ []) : ¬ (ba l).toList = [] := by rw [toList_data, ba_list]; exact h
theorem ba_ne2 {l : List UInt8} (h : l ≠ []) : (ba l).toList.isEmpty = false := by rw [toList_data, ba_list]; simpa using h
set_option maxRecDepth 100000 in
set_option maxHeartbeats 16000000 in
theorem textOf_any {w0 w : World} {g : Nat} (hs : Sty w0 w g) (S : Sets) (hS : ∀ k, k < 6 → CronN.SpellK S k) :
  Calls Tryz.prog 37 #[.agg (CronN.fieldsC S), .int .i64 125, .pointer (some ⟨g, 0, none⟩)] w fun e w' => ∃ l t, TextP (CronN.bitsK S) 6 l ∧ (∀ c ∈ t, blC c) ∧ t.length ≤ 10 ∧ e = .returned (.string (ba (l ++ t))) ∧ StyTo w0 w g w' := by
 have HF0 := Lib.hid (CronN.fieldsAt_new w S)
 have HST0 := Lib.hid (hs.below ((Below.refl w.heap.size w).alloc (Nat.le_refl _) (.cells (CronN.fieldsC S) 88)))
 have HP := Lib.hid (fun n hn w' (h : Sty w0 w' g) => pick_any h n hn)
 have HB := Lib.hid (fun w' (h : Sty w0 w' g) => blanks_any h)
 have HFT := Lib.hid (fun k hk st p hg w' (h : Sty w0 w' g) => fieldText_any h k hk st p hg)
 have HT : Hid (∀ (j : Nat) (w' : World), j < 6 → Calls Tryz.prog 78 #[.int .i64 125, .int .i64 j] w' fun e w2 => e = .returned (.bool true) ∧ Below w'.heap.size w' w2) := Lib.hid (fun j w' hj => by
  have := takes_any 125 (by omega) j hj w'
  rw [CronN.take_all ⟨j, hj⟩] at this
  exact this)
 have HMM := Lib.hid (fun w' => spec_CronMayMiss.calls 125 (-1) w' mayMiss_f)
 have HSP := Lib.hid hS
 have hgw := hs.lt.2
 clear hs hS
 go_enter Tryz.func37, Tryz.ntmps37
 go_upto_region 2 with fail
 have hFL := Lib.hid (show (w.alloc (.cells (CronN.fieldsC S) 88)).heap[w.heap.size]? = some (.cells (CronN.fieldsC S) 88 (0, 0)) from HF0.out)
 go_wp2_with (refine wpList_load_row rfl 88 _ rfl w.heap.size rfl _ _ _ _ hFL.out Tryz.underlying88 rfl (by rw [CronN.fieldsSize, CronN.fieldsC_size]) ?_)
 clear hFL HF0
 go_loopw [7, 11] (fun v7 v11 wr => ∃ (j : Nat) (l : List UInt8), v7 = .string (ba l) ∧ v11 = .int .i64 j ∧ j ≤ 6 ∧ Hid (TextP (CronN.bitsK S) j l) ∧ StyTo w0 w g wr) (fun _ v11 _ => 6 - (intOf v11).toNat)
 case atStart => exact ⟨0, [], rfl, rfl, by omega, Lib.hid (textP_zero _), HST0.out⟩
 case round =>
  obtain ⟨j, l, rfl, rfl, hj, HTP, hst⟩ := hrel
  have HST := Lib.hid hst
  have hgr : g < wr.heap.size := hst.1.lt.2
  clear hst HST0
  have hll : (ba l).size ≤ 50000 := by
   rw [ba_size]
   obtain ⟨ws, -, -, -, h4, -⟩ := HTP.out
   omega
  by_cases h6 : j < 6
  ·have hd : decide ((j : Int) < 6) = true := decide_eq_true (by omega)
   have hjl : (j : Int) < 6 := by omega
   have hj0 : (0 : Int) ≤ j := by omega
   have hjm : ((j : Int) == -1) = false := by rw [beq_eq_false_iff_ne]; omega
   have hix := CronN.run_index_fields S j h6
   obtain ⟨st, q, hg, hb, hc⟩ := setK_spell h6 (HSP.out j h6)
   have HG := Lib.hid hg
   have HBK := Lib.hid hb
   rw [hc] at hix
   clear hg hb hc
   go_wp2_with (refine wpList_store_set rfl _ _ rfl wr.heap.size st q rfl rfl false noSet (isSet_lit wr) ?_; generalize hX : World.setRow _ _ _ = wx; have HX := Lib.hid (show IsSet wx wr.heap.size st q by rw [← hX]; exact (isSet_lit wr).store st q); have HBX := Lib.hid (show Below wr.heap.size wr wx by rw [← hX]; exact below_setRow ((Below.refl _ _).alloc (Nat.le_refl _) _) (Nat.le_refl _) _); clear hX)
   refine (HT.out j _ h6).mono ?_
   rintro e w2 ⟨rfl, hb2⟩
   have HS2 := Lib.hid (HX.out.below hb2)
   have HST2 := Lib.hid (HST.out.below (below_le HBX.out hb2))
   clear hb2 HX HBX HST
   go_wp2_with fail
   refine (HMM.out _).mono ?_
   rintro e w3 ⟨rfl, hd3⟩
   have HS3 := Lib.hid (HS2.out.below hd3.below)
   have HST3 := Lib.hid (HST2.out.below hd3.below)
   clear hd3 HS2 HST2
   by_cases hl0 : l = []
   ·subst hl0
    have hne : (ba []).toList = [] := by rw [toList_data, ba_list]
    go_wp2_with fail
    refine (HP.out 8 (by omega) _ HST3.out.1).mono ?_
    rintro e w4 ⟨r4, hr4, rfl, hst4⟩
    have HS4 := Lib.hid (show IsSet w4 wr.heap.size st q from (hst4.2.2 _ HS3.out.lt (by omega) (by simp)).trans HS3.out)
    have HST4 := Lib.hid (HST3.out.trans hst4)
    clear hst4 HS3 HST3
    by_cases h1 : r4 = 1
    ·subst h1
     go_wp2_with fail
     refine (HB.out _ HST4.out.1).mono ?_
     rintro e w5 ⟨b, hbl, rfl, hst5⟩
     have hbs : (ba b).size ≤ 10 := by rw [ba_size]; exact hbl.len
     have HS5 := Lib.hid (show IsSet w5 wr.heap.size st q from (hst5.2.2 _ HS4.out.lt (by omega) (by simp)).trans HS4.out)
     have HST5 := Lib.hid (HST4.out.trans hst5)
     clear hst5 HS4 HST4
     go_wp2_with (refine wpList_load_set rfl _ rfl wr.heap.size st q rfl HS5.out ?_)
     refine (HFT.out j h6 st q HG.out _ HST5.out.1).mono ?_
     rintro e w6 ⟨x, hx, rfl, hst6⟩
     have hxs : (ba x).size ≤ 8000 := by rw [ba_size]; exact hx.len
     have hx2 : WordT j (CronN.bitsK S j) x := by rw [HBK.out]; exact hx
     have HX2 := Lib.hid hx2
     have HST6 := Lib.hid (HST5.out.trans hst6)
     clear hx hx2 hst6 HST5
     go_wp2_with fail
     go_roundw
     case rel => exact ⟨j + 1, [] ++ b ++ x, by show Value.string ((ba [] ++ ba b) ++ ba x) = _; rw [ba_app, ba_app], by go_num, by omega, Lib.hid (HTP.out.add hbl.ok hbl.len (fun _ => hbl.ne) HX2.out), HST6.out⟩
     case measure => simp [intOf]; omega
    ·have hd1 := not_one h1
     go_wp2_with (refine wpList_load_set rfl _ rfl wr.heap.size st q rfl HS4.out ?_)
     refine (HFT.out j h6 st q HG.out _ HST4.out.1).mono ?_
     rintro e w6 ⟨x, hx, rfl, hst6⟩
     have hxs : (ba x).size ≤ 8000 := by rw [ba_size]; exact hx.len
     have hx2 : WordT j (CronN.bitsK S j) x := by rw [HBK.out]; exact hx
     have HX2 := Lib.hid hx2
     have HST6 := Lib.hid (HST4.out.trans hst6)
     clear hx hx2 hst6 HST4
     go_wp2_with fail
     go_roundw
     case rel => exact ⟨j + 1, [] ++ [] ++ x, by show Value.string (ba [] ++ ba x) = _; rw [ba_app]; simp, by go_num, by omega, Lib.hid (HTP.out.add (fun c hc => by cases hc) (by simp) (fun h => absurd rfl h) HX2.out), HST6.out⟩
     case measure => simp [intOf]; omega
   ·have hne := ba_ne hl0
    have hne2 := ba_ne2 hl0
    go_wp2_with fail
    refine (HB.out _ HST3.out.1).mono ?_
    rintro e w5 ⟨b, hbl, rfl, hst5⟩
    have hbs : (ba b).size ≤ 10 := by rw [ba_size]; exact hbl.len
    have HS5 := Lib.hid (show IsSet w5 wr.heap.size st q from (hst5.2.2 _ HS3.out.lt (by omega) (by simp)).trans HS3.out)
    have HST5 := Lib.hid (HST3.out.trans hst5)
    clear hst5 HS3 HST3
    go_wp2_with (refine wpList_load_set rfl _ rfl wr.heap.size st q rfl HS5.out ?_)
    refine (HFT.out j h6 st q HG.out _ HST5.out.1).mono ?_
    rintro e w6 ⟨x, hx, rfl, hst6⟩
    have hxs : (ba x).size ≤ 8000 := by rw [ba_size]; exact hx.len
    have hx2 : WordT j (CronN.bitsK S j) x := by rw [HBK.out]; exact hx
    have HX2 := Lib.hid hx2
    have HST6 := Lib.hid (HST5.out.trans hst6)
    clear hx hx2 hst6 HST5
    go_wp2_with fail
    go_roundw
    case rel => exact ⟨j + 1, l ++ b ++ x, by show Value.string ((ba l ++ ba b) ++ ba x) = _; rw [ba_app, ba_app], by go_num, by omega, Lib.hid (HTP.out.add hbl.ok hbl.len (fun _ => hbl.ne) HX2.out), HST6.out⟩
    case measure => simp [intOf]; omega
  ·obtain rfl : j = 6 := by omega
   have hd : decide (((6 : Nat) : Int) < 6) = false := rfl
   go_wp2_with fail
   refine (HP.out 8 (by omega) _ HST.out.1).mono ?_
   rintro e w4 ⟨r4, hr4, rfl, hst4⟩
   have HST4 := Lib.hid (HST.out.trans hst4)
   clear hst4 HST
   by_cases h1 : r4 = 1
   ·subst h1
    go_wp2_with fail
    refine (HB.out _ HST4.out.1).mono ?_
    rintro e w5 ⟨b, hbl, rfl, hst5⟩
    have hbs : (ba b).size ≤ 10 := by rw [ba_size]; exact hbl.len
    have HST5 := Lib.hid (HST4.out.trans hst5)
    clear hst5 HST4
    go_wp2_with fail
    go_ret
    exact ⟨l, b, HTP.out, hbl.ok, hbl.len, by show Ending.returned (Value.string (ba l ++ ba b)) = _; rw [ba_app], HST5.out⟩
   ·have hd1 := not_one h1
    go_wp2_with fail
    go_ret
    exact ⟨l, [], HTP.out, (fun c hc => by cases hc), by simp, by show Ending.returned (Value.string (ba l)) = _; rw [List.append_nil], HST4.out⟩
end Go.Proofs.YtmecbmgfacpecaaGreatDoor.Cron
