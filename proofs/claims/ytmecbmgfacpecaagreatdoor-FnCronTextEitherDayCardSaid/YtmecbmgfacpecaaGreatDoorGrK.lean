/- Lemmas and walks on the way to the law, merged by wip/tools/pack.py: Parse, Parser, ParseCron, SpecValue. Conditions: none. -/
import Derived.Test.YtmecbmgfacpecaaGreatDoorGrI
import Derived.Test.YtmecbmgfacpecaaGreatDoorGrJ
import Derived.Test.YtmecbmgfacpecaaGreatDoorShelfT
import Derived.Deep.QuietTactic
import Derived.BigQuiet
import Derived.Deep.DeepCutAuto
import Derived.Deep.DeepMust
import Derived.Outline
import Derived.Defers
import Derived.Recover
import Derived.WalkLawsBesides
import Derived.Lib.Hide
import Derived.Laws.Rows
import Derived.Laws.Tables
import Derived.Laws.ResultCell
import Derived.Test.YtmecbmgfacpecaaGreatDoorGrH
import Derived.Stop.FmtQuoteTie
import Derived.Test.YtmecbmgfacpecaaGreatDoorGrG
namespace Go.Proofs.YtmecbmgfacpecaaGreatDoor.Cron
open Go Go.RowKit Go.Proofs.YtmecbmgfacpecaaGreatDoor.Text Go.Proofs.YtmecbmgfacpecaaGreatDoor.Bits Go.Proofs.YtmecbmgfacpecaaGreatDoorW.PrintWords Go.Proofs.YtmecbmgfacpecaaGreatDoorW.PrintLast Go.Proofs.YtmecbmgfacpecaaGreatDoorW.PrintMore
set_option linter.unusedVariables false
set_option linter.unusedSimpArgs false
section
variable {P : Program} {ops : Array Oper} {Q : Exit → Act → World → Prop}
theorem goesV_ {oi : Oper} {N : Option Tmp} {a : Act} {w : World} {K : Act → World → Prop} {f : FuncId} {fn : Func} {x : Operand} {xs : Array Operand} {ts : Array TypeId} (hf : P.funcs[f]? = some fn) (hname : (fn.name == "runtime.NumGoroutine") = false) (hb : fn.body.isSome = true) (args cap all : Array Value) (hall : args ++ cap = all)
  (hx : a.eval x = .func (.func f) #[] cap)
  (hw : Region.wanted oi (yielded ops a.tmps) = true) (hN : oi.dst = N) (hop : oi.op = .call { callee := .value x, args := xs, argTypes := ts }) (hargs : xs.map a.eval = args)
  (h : Calls P f all w fun e w' => ∃ v, e = .returned v ∧ K (a.put N v) w') : if Region.wanted oi (yielded ops a.tmps) = true then Oper.wp P oi a w K Q else K (a.put N undef) w := by
 subst hall
 refine call_ f (args ++ cap) hw hN ?_ h
 have he := enters_ hf hname hb (args ++ cap) w
 unfold execOp
 simp [hop, resolve, Deferred.ofValue, invoke, hx, hargs, he]
end
def ErrSt (v : Value) (ok : Bool) : Prop := if ok = true then v = .nilIface else ∃ t x, v = .iface t x
theorem errSt_ok {v : Value} {ok : Bool} (h : ErrSt v ok) (e : ok = true) : v = .nilIface := by unfold ErrSt at h; rw [if_pos e] at h; exact h
theorem errSt_bad {v : Value} {ok : Bool} (h : ErrSt v ok) (e : ok = false) : ∃ t x, v = .iface t x := by unfold ErrSt at h; rw [if_neg (by rw [e]; decide)] at h; exact h
theorem closureErr_any (s : ByteArray) (b : Value) (lo hi : Nat) (m : Option Nat) (g : Nat) (t : TypeId) (x : Value) (w : World) (hg : g < w.heap.size) (hc : w.cell? ⟨g, 0, none⟩ = some (.iface t x)) :
  Calls Tryz.prog 104 #[.string s, .agg #[.int .u64 lo, .int .u64 hi, .map m], .pointer (some ⟨g, 0, none⟩)] w fun e w' => e = .returned (.int .u64 0) ∧ Below w.heap.size w w' := by
 go_enter Tryz.func104, Tryz.ntmps104
 go_wp2_with fail
 go_ret
 exact ⟨rfl, (Below.refl _ _).alloc (Nat.le_refl _) _⟩
def ErrLeft (w w' : World) (g : Nat) (v : Value) : Prop := w'.cell? ⟨g, 0, none⟩ = some v ∧ w'.frozen? ⟨g, 0, none⟩ = false ∧ w.heap.size ≤ w'.heap.size ∧ (∀ b, b < w.heap.size → b ≠ g → w'.heap[b]? = w.heap[b]?) ∧ Below g w w'
theorem errLeft_of {w w1 : World} {g : Nat} (v v0 : Value) (hb : Below w.heap.size w w1) (hg : g < w.heap.size) (hc : w.cell? ⟨g, 0, none⟩ = some v0) (hf : w.frozen? ⟨g, 0, none⟩ = false) : ErrLeft w (w1.setCell ⟨g, 0, none⟩ v) g v := by
 have hc1 : w1.cell? ⟨g, 0, none⟩ = some v0 := (hb.cell (p := ⟨g, 0, none⟩) hg).trans hc
 have hf1 : w1.frozen? ⟨g, 0, none⟩ = false := (hb.frozen (p := ⟨g, 0, none⟩) hg).trans hf
 refine ⟨by simp [go_sem, hc1], by simp [go_sem, hf1], by simpa using hb.size, fun b h1 h2 => ?_, (hb.mono (Nat.le_of_lt hg)).setCell (Nat.le_refl _) _⟩
 rw [heap_setCell_other w1 ⟨g, 0, none⟩ b v h2]
 exact hb.block b h1
theorem errLeft_same {w w1 : World} {g : Nat} (v0 : Value) (hb : Below w.heap.size w w1) (hg : g < w.heap.size) (hc : w.cell? ⟨g, 0, none⟩ = some v0) (hf : w.frozen? ⟨g, 0, none⟩ = false) : ErrLeft w w1 g v0 :=
 ⟨(hb.cell (p := ⟨g, 0, none⟩) hg).trans hc, (hb.frozen (p := ⟨g, 0, none⟩) hg).trans hf, hb.size, fun b h1 _ => hb.block b h1, hb.mono (Nat.le_of_lt hg)⟩
def ClosureA (w : World) (g : Nat) (ok : Bool) (r : Option Nat) (e : Ending) (w' : World) : Prop :=
 ∃ (n : Int) (v : Value), e = .returned (.int .u64 n) ∧ ErrLeft w w' g v ∧ ErrSt v (ok && r.isSome) ∧ (ok = true → ∀ b, r = some b → n = b)
theorem closureA (m : Option Nat) (val : List UInt8 → Option Nat) (Inv : World → Prop) (hR : Reads m val Inv) (lo hi : Nat) (s : ByteArray) (hs : s.size ≤ 4294967296) (h1 : lo ≤ hi) (h2 : hi ≤ 62) (g : Nat) (w : World) (hI : Inv w)
  (hg : g < w.heap.size) (v0 : Value) (ok : Bool) (hv : ErrSt v0 ok) (hc : w.cell? ⟨g, 0, none⟩ = some v0) (hf : w.frozen? ⟨g, 0, none⟩ = false) :
  Calls Tryz.prog 104 #[.string s, .agg #[.int .u64 lo, .int .u64 hi, .map m], .pointer (some ⟨g, 0, none⟩)] w (ClosureA w g ok (fieldS val lo hi s.data.toList)) := by
 cases ok with
 | true =>
  have := errSt_ok hv rfl
  subst this
  refine (closure_any m val Inv hR lo hi s hs h1 h2 g w hI hg hc hf).mono ?_
  intro e w' h
  generalize fieldS val lo hi s.data.toList = r at *
  cases r with
  | some b =>
   obtain ⟨rfl, w1, hb, rfl⟩ := h
   exact ⟨b, .nilIface, rfl, errLeft_of _ _ hb hg hc hf, rfl, fun _ b' e => by injection e with e; rw [e]⟩
  | none =>
   obtain ⟨n, t, x, rfl, w1, hb, rfl⟩ := h
   exact ⟨n, .iface t x, rfl, errLeft_of _ _ hb hg hc hf, ⟨t, x, rfl⟩, fun _ b' e => by cases e⟩
 | false =>
  obtain ⟨t, x, rfl⟩ := errSt_bad hv rfl
  refine (closureErr_any s .nilIface lo hi m g t x w hg hc).mono ?_
  rintro e w' ⟨rfl, hb⟩
  exact ⟨0, .iface t x, rfl, errLeft_same _ hb hg hc hf, ⟨t, x, rfl⟩, fun h => by cases h⟩
abbrev BoundsOf (f : FuncId) (k : Nat) : Prop :=
 ∀ w : World, G w → Calls Tryz.prog f #[] w fun e w' => ∃ (m : Option Nat) (Inv : World → Prop), e = .returned (.agg #[.int .u64 (loK k : Nat), .int .u64 (hiK k : Nat), .map m]) ∧ Reads m (valK k) Inv ∧ Inv w' ∧ Below w.heap.size w w'
theorem bounds0 : BoundsOf 106 0 := fun w hg =>
 (seconds_any w).mono fun e w' ⟨he, hb⟩ => ⟨none, G, he, reads_nil, hg.below hb, hb⟩
theorem bounds1 : BoundsOf 107 1 := fun w hg =>
 (minutes_any w).mono fun e w' ⟨he, hb⟩ => ⟨none, G, he, reads_nil, hg.below hb, hb⟩
theorem bounds2 : BoundsOf 108 2 := fun w hg =>
 (hours_any w).mono fun e w' ⟨he, hb⟩ => ⟨none, G, he, reads_nil, hg.below hb, hb⟩
theorem bounds3 : BoundsOf 109 3 := fun w hg =>
 (dom_any w).mono fun e w' ⟨he, hb⟩ => ⟨none, G, he, reads_nil, hg.below hb, hb⟩
theorem bounds4 : BoundsOf 110 4 := fun w hg =>
 (months_any w).mono fun e w' ⟨r, he, _, hM, hb⟩ => ⟨some r, _, he, reads_named r monthsL months_small, ⟨hg.below hb, hM⟩, hb⟩
theorem bounds5 : BoundsOf 111 5 := fun w hg =>
 (dow_any w).mono fun e w' ⟨r, he, _, hM, hb⟩ => ⟨some r, _, he, reads_named r dowL dow_small, ⟨hg.below hb, hM⟩, hb⟩
def bitsAt (l : List ByteArray) (k : Nat) : Option Nat := fieldS (valK k) (loK k) (hiK k) (l.getD k ⟨#[]⟩).data.toList
def sixS (l : List ByteArray) : Option (List Nat) :=
 match bitsAt l 0, bitsAt l 1, bitsAt l 2, bitsAt l 3, bitsAt l 4, bitsAt l 5 with
 | some a, some b, some c, some d, some e, some f => some [a, b, c, d, e, f]
 | _, _, _, _, _, _ => none
def parseS (s : ByteArray) (o : Nat) : Option (List Nat) := if s.size = 0 then none else (normF (fieldsZ s) o).bind sixS
def specCells (l : List Nat) (loc : Option Addr) : Array Value := #[.int .u64 (l.getD 0 0 : Nat), .int .u64 (l.getD 1 0 : Nat), .int .u64 (l.getD 2 0 : Nat), .int .u64 (l.getD 3 0 : Nat), .int .u64 (l.getD 4 0 : Nat), .int .u64 (l.getD 5 0 : Nat), .pointer loc]
def ParseAns (w : World) (r : Option (List Nat)) (e : Ending) (w' : World) : Prop :=
 (match r with
  | some l => ∃ g, e = .returned (.tuple #[.iface 169 (.pointer (some ⟨g, 0, none⟩)), .nilIface]) ∧ w'.heap[g]? = some (.cells (specCells l none) 171 (0, 0))
  | none => ∃ t x, e = .returned (.tuple #[.nilIface, .iface t x])) ∧ Below w.heap.size w w'
def stN (st : Option Nat) : Nat := if st.isSome then 1 else 0
theorem spans_count (p : Nat → Bool) (s : ByteArray) : ∀ (f pos : Nat) (st : Option Nat) (acc : List (Nat × Nat)), (Lib.spansFromP p s f pos st acc).1.length + stN (Lib.spansFromP p s f pos st acc).2 ≤ acc.length + stN st + f
 | 0, _, st, acc => by unfold Lib.spansFromP; simp
 | f + 1, pos, st, acc => by
  unfold Lib.spansFromP
  split
  ·split
   ·cases st with
    | some a =>
     have := spans_count p s f (pos + (Utf8.decode s pos).2) none (acc ++ [(a, pos)])
     simp only [List.length_append, List.length_singleton] at this
     dsimp only
     simp only [stN, Option.isSome_some, Option.isSome_none, if_true] at this ⊢
     simp at this
     omega
    | none =>
     have := spans_count p s f (pos + (Utf8.decode s pos).2) none acc
     dsimp only
     omega
   ·cases st with
    | some a =>
     have := spans_count p s f (pos + (Utf8.decode s pos).2) (some a) acc
     dsimp only
     simp only [stN, Option.isSome_some, if_true] at this ⊢
     omega
    | none =>
     have := spans_count p s f (pos + (Utf8.decode s pos).2) (some pos) acc
     dsimp only
     simp only [stN, Option.isSome_some, Option.isSome_none, if_true] at this ⊢
     simp
     omega
  ·simp
theorem fieldsZ_len (s : ByteArray) : (fieldsZ s).length ≤ s.size := by
 have := spans_count spaceZ s s.size 0 none []
 unfold fieldsZ Lib.goFieldsP Lib.spansOfP
 rw [List.length_map]
 generalize Lib.spansFromP spaceZ s s.size 0 none [] = r at *
 obtain ⟨acc, st⟩ := r
 unfold Lib.closeSpans
 cases st with
 | none => simp [stN] at this ⊢; omega
 | some a =>
  simp only [stN, Option.isSome_some, if_true, Option.isSome_none, List.length_nil] at this
  simp at this ⊢
  omega
theorem goZ_len (s : ByteArray) (hs : s.size ≤ 4294967296) : (fieldsZ s).length ≤ 4294967296 := Nat.le_trans (fieldsZ_len s) hs
theorem fieldsZ_size (s : ByteArray) (x : ByteArray) (hx : x ∈ fieldsZ s) : x.size ≤ s.size := by
 unfold fieldsZ Lib.goFieldsP at hx
 rw [List.mem_map] at hx
 obtain ⟨y, _, rfl⟩ := hx
 rw [ByteArray.size_extract]
 omega
theorem fill_size (q : Nat) (N : Nat) (hN : 1 ≤ N) : ∀ (ps : List Nat) (ds fs : List ByteArray), (∀ x ∈ ds, x.size ≤ N) → (∀ x ∈ fs, x.size ≤ N) → ∀ x ∈ fillL q ps ds fs, x.size ≤ N
 | [], _, _, _, _, x, hx => by unfold fillL at hx; cases hx
 | p :: ps, [], _, _, _, x, hx => by unfold fillL at hx; cases hx
 | p :: ps, d :: ds, fs, hd, hf, x, hx => by
  unfold fillL at hx
  have hd' : ∀ y ∈ ds, y.size ≤ N := fun y hy => hd y (List.mem_cons_of_mem _ hy)
  split at hx
  ·cases fs with
   | nil =>
    rcases List.mem_cons.1 hx with rfl | hx
    ·exact hd _ (List.mem_cons_self ..)
    ·exact fill_size q N hN ps ds [] hd' hf x hx
   | cons f fs =>
    rcases List.mem_cons.1 hx with rfl | hx
    ·exact hf _ (List.mem_cons_self ..)
    ·exact fill_size q N hN ps ds fs hd' (fun y hy => hf y (List.mem_cons_of_mem _ hy)) x hx
  ·rcases List.mem_cons.1 hx with rfl | hx
   ·exact hd _ (List.mem_cons_self ..)
   ·exact fill_size q N hN ps ds fs hd' hf x hx
theorem norm_size {fs : List ByteArray} {o N : Nat} (hN : 1 ≤ N) (hf : ∀ x ∈ fs, x.size ≤ N) {l : List ByteArray} (h : normF fs o = some l) : ∀ x ∈ l, x.size ≤ N := by
 unfold normF at h
 split at h
 ·cases h
 ·split at h
  ·cases h
  ·injection h with h
   rw [← h]
   refine fill_size _ N hN _ _ _ ?_ ?_
   ·intro x hx
    have : x.size = 1 := by
     unfold defaultsL at hx
     simp only [List.mem_cons, List.not_mem_nil, or_false] at hx
     rcases hx with rfl | rfl | rfl | rfl | rfl | rfl <;> rfl
    omega
   ·split
    ·split
     ·intro x hx
      rcases List.mem_append.1 hx with hx | hx
      ·exact hf x hx
      ·rw [List.mem_singleton.1 hx]; exact hN
     ·intro x hx
      rcases List.mem_cons.1 hx with rfl | hx
      ·exact hN
      ·exact hf x hx
    ·exact hf
theorem norm_len {fs : List ByteArray} {o : Nat} {l : List ByteArray} (h : normF fs o = some l) : l.length = 6 := by
 unfold normF at h
 split at h
 ·cases h
 ·split at h
  ·cases h
  ·injection h with h
   rw [← h]
   exact fill_length _ placesL defaultsL _ rfl
structure PSt (w wc : World) (g c ge : Nat) (l : List ByteArray) (x : Value) : Prop where
 txt : Texts wc g 6 c l
 err : wc.cell? ⟨ge, 0, none⟩ = some x
 free : wc.frozen? ⟨ge, 0, none⟩ = false
 lt : ge < wc.heap.size
 ne : g ≠ ge
 bel : Below w.heap.size w wc
 geB : w.heap.size ≤ ge
 gB : w.heap.size ≤ g
theorem PSt.below {w wc w' : World} {g c ge : Nat} {l : List ByteArray} {x : Value} (h : PSt w wc g c ge l x) (hb : Below wc.heap.size wc w') : PSt w w' g c ge l x :=
 ⟨h.txt.below hb, (hb.cell (p := ⟨ge, 0, none⟩) h.lt).trans h.err, (hb.frozen (p := ⟨ge, 0, none⟩) h.lt).trans h.free, Nat.lt_of_lt_of_le h.lt hb.size, h.ne, below_of_le h.bel hb, h.geB, h.gB⟩
theorem PSt.left {w wc w' : World} {g c ge : Nat} {l : List ByteArray} {x v : Value} (h : PSt w wc g c ge l x) (hl : ErrLeft wc w' ge v) : PSt w w' g c ge l v := by
 obtain ⟨h1, h2, h3, h4, h5⟩ := hl
 refine ⟨⟨h.txt.len, h.txt.le, Nat.lt_of_lt_of_le h.txt.lt h3, fun i y hy => ?_⟩, h1, h2, Nat.lt_of_lt_of_le h.lt h3, h.ne, h.bel.trans (h5.mono h.geB), h.geB, h.gB⟩
 have := h.txt.at_ i y hy
 unfold World.cell? at this ⊢
 rw [h4 g h.txt.lt h.ne]
 exact this
theorem six_some {l : List ByteArray} {a b c d e f : Nat} (h0 : bitsAt l 0 = some a) (h1 : bitsAt l 1 = some b) (h2 : bitsAt l 2 = some c) (h3 : bitsAt l 3 = some d) (h4 : bitsAt l 4 = some e) (h5 : bitsAt l 5 = some f) : sixS l = some [a, b, c, d, e, f] := by
 unfold sixS
 rw [h0, h1, h2, h3, h4, h5]
theorem six_none {l : List ByteArray} (h : (((((true && (bitsAt l 0).isSome) && (bitsAt l 1).isSome) && (bitsAt l 2).isSome) && (bitsAt l 3).isSome) && (bitsAt l 4).isSome && (bitsAt l 5).isSome) = false) : sixS l = none := by
 unfold sixS
 split
 ·rename_i h0 h1 h2 h3 h4 h5
  rw [h0, h1, h2, h3, h4, h5] at h
  cases h
 ·rfl
set_option maxRecDepth 100000 in
set_option maxHeartbeats 4000000 in
theorem parsePlain (o : Nat) (ho : o < 512) (s : ByteArray) (hs : s.size ≤ 4294967296) (h1 : Lib.hasPrefix s.data.toList [84, 90, 61] = false) (h2 : Lib.hasPrefix s.data.toList [67, 82, 79, 78, 95, 84, 90, 61] = false)
  (h3 : Lib.hasPrefix s.data.toList [64] = false) (w : World) (hg : G w) :
  Calls Tryz.prog 47 #[.agg #[.int .i64 o], .string s] w (ParseAns w (parseS s o)) := by
 by_cases h0 : s.size = 0
 ·have HR : Hid (parseS s o = none) := Lib.hid (by unfold parseS; rw [if_pos h0])
  have hd0 : ((s.size : Int) == 0) = true := by rw [h0]; rfl
  clear h0
  go_enter Tryz.func47, Tryz.ntmps47
  go_wp2_with fail
  refine (errorsNew_any _ _).mono ?_
  rintro e w1 ⟨t, x, rfl, hb⟩
  go_wp2_with fail
  go_ret2
  rw [HR.out]
  exact ⟨⟨t, x, rfl⟩, ((Below.refl _ _).alloc (Nat.le_refl _) _).trans (hb.mono (by simp))⟩
 ·have HR : Hid (parseS s o = (normF (fieldsZ s) o).bind sixS) := Lib.hid (by unfold parseS; rw [if_neg h0])
  have hd0 : ((s.size : Int) == 0) = false := by
   rw [beq_eq_false_iff_ne]
   omega
  have HZ := Lib.hid (fun w' => zzFields_any s hs w')
  have HZL := Lib.hid (goZ_len s hs)
  have HZS : Hid (∀ x ∈ fieldsZ s, x.size ≤ 4294967296) := Lib.hid fun x hx => Nat.le_trans (fieldsZ_size s x hx) hs
  generalize fieldsZ s = fs at *
  have HP1 : Hid (∀ w' : World, Calls Tryz.prog 97 #[.string s, .string ⟨#[84, 90, 61]⟩] w' fun e w'' => e = .returned (.bool false) ∧ w' = w'') := Lib.hid fun w' => (Tryz.strings_HasPrefix s ⟨#[84, 90, 61]⟩ w').mono fun e w'' hh => ⟨hh.1.trans (by rw [show (⟨#[84, 90, 61]⟩ : ByteArray).data.toList = [84, 90, 61] from rfl, h1]), hh.2.symm⟩
  have HP2 : Hid (∀ w' : World, Calls Tryz.prog 97 #[.string s, .string ⟨#[67, 82, 79, 78, 95, 84, 90, 61]⟩] w' fun e w'' => e = .returned (.bool false) ∧ w' = w'') := Lib.hid fun w' => (Tryz.strings_HasPrefix s ⟨#[67, 82, 79, 78, 95, 84, 90, 61]⟩ w').mono fun e w'' hh => ⟨hh.1.trans (by rw [show (⟨#[67, 82, 79, 78, 95, 84, 90, 61]⟩ : ByteArray).data.toList = [67, 82, 79, 78, 95, 84, 90, 61] from rfl, h2]), hh.2.symm⟩
  have HP3 : Hid (∀ w' : World, Calls Tryz.prog 97 #[.string s, .string ⟨#[64]⟩] w' fun e w'' => e = .returned (.bool false) ∧ w' = w'') := Lib.hid fun w' => (Tryz.strings_HasPrefix s ⟨#[64]⟩ w').mono fun e w'' hh => ⟨hh.1.trans (by rw [show (⟨#[64]⟩ : ByteArray).data.toList = [64] from rfl, h3]), hh.2.symm⟩
  clear h0 h1 h2 h3
  go_enter Tryz.func47, Tryz.ntmps47
  go_wp2_with fail
  refine (HP1.out _).mono ?_
  rintro e w1 ⟨rfl, rfl⟩
  go_wp2_with fail
  refine (HP2.out _).mono ?_
  rintro e w1 ⟨rfl, rfl⟩
  go_wp2_with fail
  refine (HP3.out _).mono ?_
  rintro e w1 ⟨rfl, rfl⟩
  go_wp2_with fail
  refine (HZ.out _).mono ?_
  rintro e w1 ⟨v, rfl, hown, hb1⟩
  have hc0 : w1.cell? ⟨w.heap.size, 0, none⟩ = some (.int .i64 o) := (hb1.cell (p := ⟨w.heap.size, 0, none⟩) (by simp)).trans (by simp [go_sem])
  have hz1 : w.heap.size < w1.heap.size := by have := hb1.size; simp at this; omega
  have HNA : Hid (∀ w' : World, w'.heap.size = w1.heap.size + 1 → Below w1.heap.size w1 w' → Calls Tryz.prog 103 #[v, .int .i64 o] w' (NormAnswer (w.heap.size + 1) w1.heap.size w' (normF fs o))) := Lib.hid fun w' h1 h2 =>
   normal_any o ho fs v w' (w.heap.size + 1) (by
    have := hown
    rw [show (w.alloc (.cells #[.int .i64 o] 105)).heap.size = w.heap.size + 1 by simp] at this
    exact own_below this h2) HZL.out (by omega) w1.heap.size (by omega) (fun e => by
    have := (hown.lt _ e).2
    omega)
  have HB1 := Lib.hid hb1
  generalize hR0 : normF fs o = R0 at *
  clear hown hb1 HP1 HP2 HP3 HZ HZL
  go_wp2_with fail
  have HR0 : Hid (normF fs o = R0) := Lib.hid hR0
  clear hR0
  refine (HNA.out _ (by simp) ((Below.refl _ _).alloc (Nat.le_refl _) _)).mono ?_
  intro e w2 hN
  have HZN : Hid (∀ l, R0 = some l → (∀ x ∈ l, x.size ≤ 4294967296) ∧ l.length = 6) := Lib.hid fun l h => by
   rw [← HR0.out] at h
   exact ⟨norm_size (by decide) HZS.out h, norm_len h⟩
  have hge : (w1.alloc (.cells #[.nilIface] 112)).heap[w1.heap.size]? = some (.cells #[.nilIface] 112 (0, 0)) := heap_alloc_new w1 _
  obtain ⟨hres, hbN, hkN⟩ := hN
  have hcell := hkN.trans hge
  have hB2 : Below w.heap.size w w2 := (((Below.refl _ _).alloc (Nat.le_refl _) _).trans (HB1.out.mono (by simp))).trans ((((Below.refl _ _).alloc (Nat.le_refl w1.heap.size) _).mono (by omega)).trans (hbN.mono (by omega)))
  have hlt2 : w1.heap.size < w2.heap.size := (Array.getElem?_eq_some_iff.1 hcell).1
  have hcE : w2.cell? ⟨w1.heap.size, 0, none⟩ = some .nilIface := cell_of_row _ _ _ _ _ _ hcell
  have hfE : w2.frozen? ⟨w1.heap.size, 0, none⟩ = false := frozen_of_row _ _ _ _ _ hcell
  have hsz12 : (w1.alloc (.cells #[.nilIface] 112)).heap.size = w1.heap.size + 1 := by simp
  clear hge hkN hcell hbN
  have hmf : ∀ (fn : Fn) (first cap : Array Value) (w : World), (Instr.makeFunc fn first cap).run Tryz.prog w = .ok (.func fn first cap) w := fun _ _ _ _ => rfl
  cases R0 with
  | none =>
   obtain ⟨t, x, rfl⟩ := hres
   have HX : Hid (parseS s o = none) := Lib.hid (by rw [HR.out]; rfl)
   have HB := Lib.hid (hB2.setCell (p := ⟨w1.heap.size, 0, none⟩) (show w.heap.size ≤ w1.heap.size by omega) (.iface t x))
   clear hB2
   go_wp2_with fail
   go_quiet (fail)
   go_wp2_with fail
   go_ret2
   rw [HX.out]
   exact ⟨⟨t, x, rfl⟩, below_of_le HB.out (below_drewN _ nq)⟩
  | some l =>
   obtain ⟨g, c, rfl, hgg, hT⟩ := hres
   have HPS : Hid (PSt w (w2.setCell ⟨w1.heap.size, 0, none⟩ .nilIface) g c w1.heap.size l .nilIface) := Lib.hid (PSt.left (x := .nilIface) ⟨hT, hcE, hfE, hlt2, by omega, hB2, by omega, by omega⟩ (errLeft_of .nilIface .nilIface (Below.refl _ _) hlt2 hcE hfE))
   obtain ⟨hsz, hlen⟩ := HZN.out l rfl
   have HGW : Hid (∀ w', Below w.heap.size w w' → G w') := Lib.hid fun w' h => hg.below h
   have HX : Hid (parseS s o = sixS l) := Lib.hid (by rw [HR.out]; rfl)
   have hx : ∀ k, k < 6 → ∃ x, l[k]? = some x ∧ l.getD k ⟨#[]⟩ = x ∧ x.size ≤ 4294967296 := fun k hk => ⟨l[k], List.getElem?_eq_getElem (by omega), by simp [List.getD, show k < l.length by omega], hsz _ (List.getElem_mem _)⟩
   clear hT hB2 hsz hlen HR HR0 HZN HZS hgg hg
   obtain ⟨x0, hx0, hy0, hs0⟩ := hx 0 (by omega)
   have HC0 : Hid (∀ m Inv, Reads m (valK 0) Inv → ∀ w' : World, Inv w' → w1.heap.size < w'.heap.size → ∀ v0 ok, ErrSt v0 ok → w'.cell? ⟨w1.heap.size, 0, none⟩ = some v0 → w'.frozen? ⟨w1.heap.size, 0, none⟩ = false →
     Calls Tryz.prog 104 #[.string x0, .agg #[.int .u64 (loK 0 : Nat), .int .u64 (hiK 0 : Nat), .map m], .pointer (some ⟨w1.heap.size, 0, none⟩)] w' (ClosureA w' w1.heap.size ok (bitsAt l 0))) :=
    Lib.hid fun m Inv hR w' hI hg v0 ok hv hc hf => by
     unfold bitsAt
     rw [hy0]
     exact closureA m (valK 0) Inv hR (loK 0) (hiK 0) x0 hs0 (loK_le 0) (hiK_le 0) w1.heap.size w' hI hg v0 ok hv hc hf
   have HX0 := Lib.hid hx0
   obtain ⟨x1, hx1, hy1, hs1⟩ := hx 1 (by omega)
   have HC1 : Hid (∀ m Inv, Reads m (valK 1) Inv → ∀ w' : World, Inv w' → w1.heap.size < w'.heap.size → ∀ v0 ok, ErrSt v0 ok → w'.cell? ⟨w1.heap.size, 0, none⟩ = some v0 → w'.frozen? ⟨w1.heap.size, 0, none⟩ = false →
     Calls Tryz.prog 104 #[.string x1, .agg #[.int .u64 (loK 1 : Nat), .int .u64 (hiK 1 : Nat), .map m], .pointer (some ⟨w1.heap.size, 0, none⟩)] w' (ClosureA w' w1.heap.size ok (bitsAt l 1))) :=
    Lib.hid fun m Inv hR w' hI hg v0 ok hv hc hf => by
     unfold bitsAt
     rw [hy1]
     exact closureA m (valK 1) Inv hR (loK 1) (hiK 1) x1 hs1 (loK_le 1) (hiK_le 1) w1.heap.size w' hI hg v0 ok hv hc hf
   have HX1 := Lib.hid hx1
   obtain ⟨x2, hx2, hy2, hs2⟩ := hx 2 (by omega)
   have HC2 : Hid (∀ m Inv, Reads m (valK 2) Inv → ∀ w' : World, Inv w' → w1.heap.size < w'.heap.size → ∀ v0 ok, ErrSt v0 ok → w'.cell? ⟨w1.heap.size, 0, none⟩ = some v0 → w'.frozen? ⟨w1.heap.size, 0, none⟩ = false →
     Calls Tryz.prog 104 #[.string x2, .agg #[.int .u64 (loK 2 : Nat), .int .u64 (hiK 2 : Nat), .map m], .pointer (some ⟨w1.heap.size, 0, none⟩)] w' (ClosureA w' w1.heap.size ok (bitsAt l 2))) :=
    Lib.hid fun m Inv hR w' hI hg v0 ok hv hc hf => by
     unfold bitsAt
     rw [hy2]
     exact closureA m (valK 2) Inv hR (loK 2) (hiK 2) x2 hs2 (loK_le 2) (hiK_le 2) w1.heap.size w' hI hg v0 ok hv hc hf
   have HX2 := Lib.hid hx2
   obtain ⟨x3, hx3, hy3, hs3⟩ := hx 3 (by omega)
   have HC3 : Hid (∀ m Inv, Reads m (valK 3) Inv → ∀ w' : World, Inv w' → w1.heap.size < w'.heap.size → ∀ v0 ok, ErrSt v0 ok → w'.cell? ⟨w1.heap.size, 0, none⟩ = some v0 → w'.frozen? ⟨w1.heap.size, 0, none⟩ = false →
     Calls Tryz.prog 104 #[.string x3, .agg #[.int .u64 (loK 3 : Nat), .int .u64 (hiK 3 : Nat), .map m], .pointer (some ⟨w1.heap.size, 0, none⟩)] w' (ClosureA w' w1.heap.size ok (bitsAt l 3))) :=
    Lib.hid fun m Inv hR w' hI hg v0 ok hv hc hf => by
     unfold bitsAt
     rw [hy3]
     exact closureA m (valK 3) Inv hR (loK 3) (hiK 3) x3 hs3 (loK_le 3) (hiK_le 3) w1.heap.size w' hI hg v0 ok hv hc hf
   have HX3 := Lib.hid hx3
   obtain ⟨x4, hx4, hy4, hs4⟩ := hx 4 (by omega)
   have HC4 : Hid (∀ m Inv, Reads m (valK 4) Inv → ∀ w' : World, Inv w' → w1.heap.size < w'.heap.size → ∀ v0 ok, ErrSt v0 ok → w'.cell? ⟨w1.heap.size, 0, none⟩ = some v0 → w'.frozen? ⟨w1.heap.size, 0, none⟩ = false →
     Calls Tryz.prog 104 #[.string x4, .agg #[.int .u64 (loK 4 : Nat), .int .u64 (hiK 4 : Nat), .map m], .pointer (some ⟨w1.heap.size, 0, none⟩)] w' (ClosureA w' w1.heap.size ok (bitsAt l 4))) :=
    Lib.hid fun m Inv hR w' hI hg v0 ok hv hc hf => by
     unfold bitsAt
     rw [hy4]
     exact closureA m (valK 4) Inv hR (loK 4) (hiK 4) x4 hs4 (loK_le 4) (hiK_le 4) w1.heap.size w' hI hg v0 ok hv hc hf
   have HX4 := Lib.hid hx4
   obtain ⟨x5, hx5, hy5, hs5⟩ := hx 5 (by omega)
   have HC5 : Hid (∀ m Inv, Reads m (valK 5) Inv → ∀ w' : World, Inv w' → w1.heap.size < w'.heap.size → ∀ v0 ok, ErrSt v0 ok → w'.cell? ⟨w1.heap.size, 0, none⟩ = some v0 → w'.frozen? ⟨w1.heap.size, 0, none⟩ = false →
     Calls Tryz.prog 104 #[.string x5, .agg #[.int .u64 (loK 5 : Nat), .int .u64 (hiK 5 : Nat), .map m], .pointer (some ⟨w1.heap.size, 0, none⟩)] w' (ClosureA w' w1.heap.size ok (bitsAt l 5))) :=
    Lib.hid fun m Inv hR w' hI hg v0 ok hv hc hf => by
     unfold bitsAt
     rw [hy5]
     exact closureA m (valK 5) Inv hR (loK 5) (hiK 5) x5 hs5 (loK_le 5) (hiK_le 5) w1.heap.size w' hI hg v0 ok hv hc hf
   have HX5 := Lib.hid hx5
   have HS := Lib.hid (fun a b c d e f => six_some (l := l) (a := a) (b := b) (c := c) (d := d) (e := e) (f := f))
   have HN := Lib.hid (six_none (l := l))
   clear hx hy0 hy1 hy2 hy3 hy4 hy5 hx0 hx1 hx2 hx3 hx4 hx5 hs0 hs1 hs2 hs3 hs4 hs5
   generalize sixS l = R6 at *
   generalize bitsAt l 0 = r0 at *
   generalize bitsAt l 1 = r1 at *
   generalize bitsAt l 2 = r2 at *
   generalize bitsAt l 3 = r3 at *
   generalize bitsAt l 4 = r4 at *
   generalize bitsAt l 5 = r5 at *
   go_wp2_with fail
   generalize hW3 : w2.setCell ⟨w1.heap.size, 0, none⟩ .nilIface = w3 at *
   clear hW3 hcE hfE hlt2
   have hE0 : Hid (ErrSt .nilIface true) := Lib.hid rfl
   generalize hge : w1.heap.size = ge at *
   clear hge
   go_upto_region 22 with fail
   go_cut [13] (fun v wc => ∃ (n : Int) (x : Value), v = .int .u64 n ∧ Hid (PSt w wc g c ge l x) ∧ Hid (ErrSt x (true && r0.isSome)) ∧ Hid (true = true → ∀ b, r0 = some b → n = b))
   case first =>
    have hc0 : w3.cell? ⟨g, 0, none⟩ = some (.string x0) := HPS.out.txt.at_ 0 _ HX0.out
    have hgl : g < w3.heap.size := HPS.out.txt.lt
    refine start_ (n := 7) (S := fun w' => w'.cell? ⟨g, 0, none⟩ = some (.string x0)) (ds := [5]) #[false, false, false, false, false, false, false] (by kernel_rfl) rfl rfl (hc0) (fun hHeld => ?_)
    refine pure_ (i := 0) (N := some 74) (v := ?_) (a' := ?_) #[true, false, false, false, false, false, false] rfl rfl (by kernel_rfl) (fun _ _ _ h => h) (Or.inl ⟨by rfl, ?_⟩) ?_ ?_
    rotate_left
    ·intro w'
     go_simp
     with_reducible rfl
    rotate_left
    ·simp only [Act.put, List.setIfInBounds_toArray, List.set_cons_zero, List.set_cons_succ, i64_w, i32_w]
     rfl
    refine pure_ (i := 1) (N := some 75) (v := ?_) (a' := ?_) #[true, true, false, false, false, false, false] rfl rfl (by kernel_rfl) (fun _ _ _ h => h) (Or.inl ⟨by rfl, ?_⟩) ?_ ?_
    rotate_left
    ·intro w'
     go_simp
     with_reducible rfl
    rotate_left
    ·simp only [Act.put, List.setIfInBounds_toArray, List.set_cons_zero, List.set_cons_succ, i64_w, i32_w]
     rfl
    refine pure_ (i := 2) (N := some 76) (v := ?_) (a' := ?_) #[true, true, true, false, false, false, false] rfl rfl (by kernel_rfl) (fun _ _ _ h => h) (Or.inl ⟨by rfl, ?_⟩) ?_ ?_
    rotate_left
    ·intro w'
     go_simp
     with_reducible rfl
    rotate_left
    ·simp only [Act.put, List.setIfInBounds_toArray, List.set_cons_zero, List.set_cons_succ, i64_w, i32_w]
     rfl
    refine take_ (i := 3) (N := some 77) (v := ?_) (a' := ?_) #[true, true, true, true, false, false, false] rfl rfl (by kernel_rfl) (fun _ _ _ h => h) (Or.inl ⟨by rfl, ?_⟩) hHeld ?_ ?_
    rotate_left
    ·intro w' s0
     go_simp
     with_reducible rfl
    rotate_left
    ·simp only [Act.put, List.setIfInBounds_toArray, List.set_cons_zero, List.set_cons_succ, i64_w, i32_w]
     rfl
    refine one_ (i := 4) (N := some 78) #[true, true, true, true, true, false, false] rfl rfl (by kernel_rfl) (by decide) (fun K hK => ?_)
    refine goes_ Tryz.func106 (by kernel_rfl) rfl #[] (by rfl) rfl rfl (by simp only [List.map_toArray, List.map_nil]) ?_
    with_reducible refine (bounds0 _ (HGW.out _ (HPS.out.bel.drew))).mono ?_
    rintro e w4 ⟨m, Inv, rfl, hR, hI, hb4⟩
    refine ⟨_, rfl, ?_⟩
    refine hK.out _ _ ((hb4.cell (p := ⟨g, 0, none⟩) hgl).trans hc0) (fun hHeld => ?_)
    clear hK K
    refine norm_ (a' := ?_) ?_ ?_
    rotate_left
    ·show Act.put _ (some 78) _ = _
     simp only [Act.put, List.setIfInBounds_toArray, List.set_cons_zero, List.set_cons_succ, i64_w, i32_w]
     rfl
    refine last_ (i := 5) (N := some 79) #[true, true, true, true, true, true, false] rfl rfl (by kernel_rfl) (by decide) (fun K hK => ?_)
    have HP4 := Lib.hid ((HPS.out.below ((Below.refl _ _).drew)).below hb4)
    refine goesV_ Tryz.func104 (by kernel_rfl) rfl #[.string x0, .agg #[.int .u64 (loK 0 : Nat), .int .u64 (hiK 0 : Nat), .map m]] #[.pointer (some ⟨ge, 0, none⟩)] #[.string x0, .agg #[.int .u64 (loK 0 : Nat), .int .u64 (hiK 0 : Nat), .map m], .pointer (some ⟨ge, 0, none⟩)] rfl (by rfl) (by rfl) rfl rfl (by simp only [List.map_toArray, List.map_cons, List.map_nil]; rfl) ?_
    with_reducible refine (HC0.out m Inv hR _ hI HP4.out.lt .nilIface true hE0.out HP4.out.err HP4.out.free).mono ?_
    rintro e w5 ⟨n, x, rfl, hl5, he5, hn5⟩
    refine ⟨_, rfl, ?_⟩
    have HP5 := Lib.hid (HP4.out.left hl5)
    have HE5 := Lib.hid he5
    have HN5 := Lib.hid hn5
    clear hl5 he5 hn5
    refine hK.out _ _ ?_
    clear hK K
    refine norm_ (a' := ?_) ?_ ?_
    rotate_left
    ·show Act.put _ (some 79) _ = _
     simp only [Act.put, List.setIfInBounds_toArray, List.set_cons_zero, List.set_cons_succ, i64_w, i32_w]
     rfl
    refine pure_ (i := 6) (N := some 13) (v := ?_) (a' := ?_) #[true, true, true, true, true, true, true] rfl rfl (by kernel_rfl) (fun _ _ _ h => h) (Or.inl ⟨by rfl, ?_⟩) ?_ ?_
    rotate_left
    ·intro w'
     go_simp
     with_reducible rfl
    rotate_left
    ·simp only [Act.put, List.setIfInBounds_toArray, List.set_cons_zero, List.set_cons_succ, i64_w, i32_w]
     rfl
    refine done_ (by kernel_rfl) ?_
    go_wp2_with fail
    go_meet
    exact ⟨n, x, rfl, HP5, HE5, HN5⟩
   case rest =>
   obtain ⟨n0, e0, rfl, HPS0, HE0, HN0⟩ := hcut
   obtain ⟨wk0, rfl⟩ : ∃ wk : World, wk = wc := ⟨_, rfl⟩
   clear HPS hE0 HC0 HX0
   go_upto_region 23 with fail
   go_cut [14] (fun v wc => ∃ (n : Int) (x : Value), v = .int .u64 n ∧ Hid (PSt w wc g c ge l x) ∧ Hid (ErrSt x ((true && r0.isSome) && r1.isSome)) ∧ Hid ((true && r0.isSome) = true → ∀ b, r1 = some b → n = b))
   case first =>
    have hc1 : wk0.cell? ⟨g, 1, none⟩ = some (.string x1) := HPS0.out.txt.at_ 1 _ HX1.out
    have hgl : g < wk0.heap.size := HPS0.out.txt.lt
    refine start_ (n := 7) (S := fun w' => w'.cell? ⟨g, 1, none⟩ = some (.string x1)) (ds := [5]) #[false, false, false, false, false, false, false] (by kernel_rfl) rfl rfl (hc1) (fun hHeld => ?_)
    refine pure_ (i := 0) (N := some 80) (v := ?_) (a' := ?_) #[true, false, false, false, false, false, false] rfl rfl (by kernel_rfl) (fun _ _ _ h => h) (Or.inl ⟨by rfl, ?_⟩) ?_ ?_
    rotate_left
    ·intro w'
     go_simp
     with_reducible rfl
    rotate_left
    ·simp only [Act.put, List.setIfInBounds_toArray, List.set_cons_zero, List.set_cons_succ, i64_w, i32_w]
     rfl
    refine pure_ (i := 1) (N := some 81) (v := ?_) (a' := ?_) #[true, true, false, false, false, false, false] rfl rfl (by kernel_rfl) (fun _ _ _ h => h) (Or.inl ⟨by rfl, ?_⟩) ?_ ?_
    rotate_left
    ·intro w'
     go_simp
     with_reducible rfl
    rotate_left
    ·simp only [Act.put, List.setIfInBounds_toArray, List.set_cons_zero, List.set_cons_succ, i64_w, i32_w]
     rfl
    refine pure_ (i := 2) (N := some 82) (v := ?_) (a' := ?_) #[true, true, true, false, false, false, false] rfl rfl (by kernel_rfl) (fun _ _ _ h => h) (Or.inl ⟨by rfl, ?_⟩) ?_ ?_
    rotate_left
    ·intro w'
     go_simp
     with_reducible rfl
    rotate_left
    ·simp only [Act.put, List.setIfInBounds_toArray, List.set_cons_zero, List.set_cons_succ, i64_w, i32_w]
     rfl
    refine take_ (i := 3) (N := some 83) (v := ?_) (a' := ?_) #[true, true, true, true, false, false, false] rfl rfl (by kernel_rfl) (fun _ _ _ h => h) (Or.inl ⟨by rfl, ?_⟩) hHeld ?_ ?_
    rotate_left
    ·intro w' s0
     go_simp
     with_reducible rfl
    rotate_left
    ·simp only [Act.put, List.setIfInBounds_toArray, List.set_cons_zero, List.set_cons_succ, i64_w, i32_w]
     rfl
    refine one_ (i := 4) (N := some 84) #[true, true, true, true, true, false, false] rfl rfl (by kernel_rfl) (by decide) (fun K hK => ?_)
    refine goes_ Tryz.func107 (by kernel_rfl) rfl #[] (by rfl) rfl rfl (by simp only [List.map_toArray, List.map_nil]) ?_
    with_reducible refine (bounds1 _ (HGW.out _ (HPS0.out.bel.drew))).mono ?_
    rintro e w4 ⟨m, Inv, rfl, hR, hI, hb4⟩
    refine ⟨_, rfl, ?_⟩
    refine hK.out _ _ ((hb4.cell (p := ⟨g, 1, none⟩) hgl).trans hc1) (fun hHeld => ?_)
    clear hK K
    refine norm_ (a' := ?_) ?_ ?_
    rotate_left
    ·show Act.put _ (some 84) _ = _
     simp only [Act.put, List.setIfInBounds_toArray, List.set_cons_zero, List.set_cons_succ, i64_w, i32_w]
     rfl
    refine last_ (i := 5) (N := some 85) #[true, true, true, true, true, true, false] rfl rfl (by kernel_rfl) (by decide) (fun K hK => ?_)
    have HP4 := Lib.hid ((HPS0.out.below ((Below.refl _ _).drew)).below hb4)
    refine goesV_ Tryz.func104 (by kernel_rfl) rfl #[.string x1, .agg #[.int .u64 (loK 1 : Nat), .int .u64 (hiK 1 : Nat), .map m]] #[.pointer (some ⟨ge, 0, none⟩)] #[.string x1, .agg #[.int .u64 (loK 1 : Nat), .int .u64 (hiK 1 : Nat), .map m], .pointer (some ⟨ge, 0, none⟩)] rfl (by rfl) (by rfl) rfl rfl (by simp only [List.map_toArray, List.map_cons, List.map_nil]; rfl) ?_
    with_reducible refine (HC1.out m Inv hR _ hI HP4.out.lt e0 (true && r0.isSome) HE0.out HP4.out.err HP4.out.free).mono ?_
    rintro e w5 ⟨n, x, rfl, hl5, he5, hn5⟩
    refine ⟨_, rfl, ?_⟩
    have HP5 := Lib.hid (HP4.out.left hl5)
    have HE5 := Lib.hid he5
    have HN5 := Lib.hid hn5
    clear hl5 he5 hn5
    refine hK.out _ _ ?_
    clear hK K
    refine norm_ (a' := ?_) ?_ ?_
    rotate_left
    ·show Act.put _ (some 85) _ = _
     simp only [Act.put, List.setIfInBounds_toArray, List.set_cons_zero, List.set_cons_succ, i64_w, i32_w]
     rfl
    refine pure_ (i := 6) (N := some 14) (v := ?_) (a' := ?_) #[true, true, true, true, true, true, true] rfl rfl (by kernel_rfl) (fun _ _ _ h => h) (Or.inl ⟨by rfl, ?_⟩) ?_ ?_
    rotate_left
    ·intro w'
     go_simp
     with_reducible rfl
    rotate_left
    ·simp only [Act.put, List.setIfInBounds_toArray, List.set_cons_zero, List.set_cons_succ, i64_w, i32_w]
     rfl
    refine done_ (by kernel_rfl) ?_
    go_wp2_with fail
    go_meet
    exact ⟨n, x, rfl, HP5, HE5, HN5⟩
   case rest =>
   obtain ⟨n1, e1, rfl, HPS1, HE1, HN1⟩ := hcut
   obtain ⟨wk1, rfl⟩ : ∃ wk : World, wk = wc := ⟨_, rfl⟩
   clear HPS0 HE0 HC1 HX1
   go_upto_region 24 with fail
   go_cut [15] (fun v wc => ∃ (n : Int) (x : Value), v = .int .u64 n ∧ Hid (PSt w wc g c ge l x) ∧ Hid (ErrSt x (((true && r0.isSome) && r1.isSome) && r2.isSome)) ∧ Hid (((true && r0.isSome) && r1.isSome) = true → ∀ b, r2 = some b → n = b))
   case first =>
    have hc2 : wk1.cell? ⟨g, 2, none⟩ = some (.string x2) := HPS1.out.txt.at_ 2 _ HX2.out
    have hgl : g < wk1.heap.size := HPS1.out.txt.lt
    refine start_ (n := 7) (S := fun w' => w'.cell? ⟨g, 2, none⟩ = some (.string x2)) (ds := [5]) #[false, false, false, false, false, false, false] (by kernel_rfl) rfl rfl (hc2) (fun hHeld => ?_)
    refine pure_ (i := 0) (N := some 86) (v := ?_) (a' := ?_) #[true, false, false, false, false, false, false] rfl rfl (by kernel_rfl) (fun _ _ _ h => h) (Or.inl ⟨by rfl, ?_⟩) ?_ ?_
    rotate_left
    ·intro w'
     go_simp
     with_reducible rfl
    rotate_left
    ·simp only [Act.put, List.setIfInBounds_toArray, List.set_cons_zero, List.set_cons_succ, i64_w, i32_w]
     rfl
    refine pure_ (i := 1) (N := some 87) (v := ?_) (a' := ?_) #[true, true, false, false, false, false, false] rfl rfl (by kernel_rfl) (fun _ _ _ h => h) (Or.inl ⟨by rfl, ?_⟩) ?_ ?_
    rotate_left
    ·intro w'
     go_simp
     with_reducible rfl
    rotate_left
    ·simp only [Act.put, List.setIfInBounds_toArray, List.set_cons_zero, List.set_cons_succ, i64_w, i32_w]
     rfl
    refine pure_ (i := 2) (N := some 88) (v := ?_) (a' := ?_) #[true, true, true, false, false, false, false] rfl rfl (by kernel_rfl) (fun _ _ _ h => h) (Or.inl ⟨by rfl, ?_⟩) ?_ ?_
    rotate_left
    ·intro w'
     go_simp
     with_reducible rfl
    rotate_left
    ·simp only [Act.put, List.setIfInBounds_toArray, List.set_cons_zero, List.set_cons_succ, i64_w, i32_w]
     rfl
    refine take_ (i := 3) (N := some 89) (v := ?_) (a' := ?_) #[true, true, true, true, false, false, false] rfl rfl (by kernel_rfl) (fun _ _ _ h => h) (Or.inl ⟨by rfl, ?_⟩) hHeld ?_ ?_
    rotate_left
    ·intro w' s0
     go_simp
     with_reducible rfl
    rotate_left
    ·simp only [Act.put, List.setIfInBounds_toArray, List.set_cons_zero, List.set_cons_succ, i64_w, i32_w]
     rfl
    refine one_ (i := 4) (N := some 90) #[true, true, true, true, true, false, false] rfl rfl (by kernel_rfl) (by decide) (fun K hK => ?_)
    refine goes_ Tryz.func108 (by kernel_rfl) rfl #[] (by rfl) rfl rfl (by simp only [List.map_toArray, List.map_nil]) ?_
    with_reducible refine (bounds2 _ (HGW.out _ (HPS1.out.bel.drew))).mono ?_
    rintro e w4 ⟨m, Inv, rfl, hR, hI, hb4⟩
    refine ⟨_, rfl, ?_⟩
    refine hK.out _ _ ((hb4.cell (p := ⟨g, 2, none⟩) hgl).trans hc2) (fun hHeld => ?_)
    clear hK K
    refine norm_ (a' := ?_) ?_ ?_
    rotate_left
    ·show Act.put _ (some 90) _ = _
     simp only [Act.put, List.setIfInBounds_toArray, List.set_cons_zero, List.set_cons_succ, i64_w, i32_w]
     rfl
    refine last_ (i := 5) (N := some 91) #[true, true, true, true, true, true, false] rfl rfl (by kernel_rfl) (by decide) (fun K hK => ?_)
    have HP4 := Lib.hid ((HPS1.out.below ((Below.refl _ _).drew)).below hb4)
    refine goesV_ Tryz.func104 (by kernel_rfl) rfl #[.string x2, .agg #[.int .u64 (loK 2 : Nat), .int .u64 (hiK 2 : Nat), .map m]] #[.pointer (some ⟨ge, 0, none⟩)] #[.string x2, .agg #[.int .u64 (loK 2 : Nat), .int .u64 (hiK 2 : Nat), .map m], .pointer (some ⟨ge, 0, none⟩)] rfl (by rfl) (by rfl) rfl rfl (by simp only [List.map_toArray, List.map_cons, List.map_nil]; rfl) ?_
    with_reducible refine (HC2.out m Inv hR _ hI HP4.out.lt e1 ((true && r0.isSome) && r1.isSome) HE1.out HP4.out.err HP4.out.free).mono ?_
    rintro e w5 ⟨n, x, rfl, hl5, he5, hn5⟩
    refine ⟨_, rfl, ?_⟩
    have HP5 := Lib.hid (HP4.out.left hl5)
    have HE5 := Lib.hid he5
    have HN5 := Lib.hid hn5
    clear hl5 he5 hn5
    refine hK.out _ _ ?_
    clear hK K
    refine norm_ (a' := ?_) ?_ ?_
    rotate_left
    ·show Act.put _ (some 91) _ = _
     simp only [Act.put, List.setIfInBounds_toArray, List.set_cons_zero, List.set_cons_succ, i64_w, i32_w]
     rfl
    refine pure_ (i := 6) (N := some 15) (v := ?_) (a' := ?_) #[true, true, true, true, true, true, true] rfl rfl (by kernel_rfl) (fun _ _ _ h => h) (Or.inl ⟨by rfl, ?_⟩) ?_ ?_
    rotate_left
    ·intro w'
     go_simp
     with_reducible rfl
    rotate_left
    ·simp only [Act.put, List.setIfInBounds_toArray, List.set_cons_zero, List.set_cons_succ, i64_w, i32_w]
     rfl
    refine done_ (by kernel_rfl) ?_
    go_wp2_with fail
    go_meet
    exact ⟨n, x, rfl, HP5, HE5, HN5⟩
   case rest =>
   obtain ⟨n2, e2, rfl, HPS2, HE2, HN2⟩ := hcut
   obtain ⟨wk2, rfl⟩ : ∃ wk : World, wk = wc := ⟨_, rfl⟩
   clear HPS1 HE1 HC2 HX2
   go_upto_region 25 with fail
   go_cut [16] (fun v wc => ∃ (n : Int) (x : Value), v = .int .u64 n ∧ Hid (PSt w wc g c ge l x) ∧ Hid (ErrSt x ((((true && r0.isSome) && r1.isSome) && r2.isSome) && r3.isSome)) ∧ Hid ((((true && r0.isSome) && r1.isSome) && r2.isSome) = true → ∀ b, r3 = some b → n = b))
   case first =>
    have hc3 : wk2.cell? ⟨g, 3, none⟩ = some (.string x3) := HPS2.out.txt.at_ 3 _ HX3.out
    have hgl : g < wk2.heap.size := HPS2.out.txt.lt
    refine start_ (n := 7) (S := fun w' => w'.cell? ⟨g, 3, none⟩ = some (.string x3)) (ds := [5]) #[false, false, false, false, false, false, false] (by kernel_rfl) rfl rfl (hc3) (fun hHeld => ?_)
    refine pure_ (i := 0) (N := some 92) (v := ?_) (a' := ?_) #[true, false, false, false, false, false, false] rfl rfl (by kernel_rfl) (fun _ _ _ h => h) (Or.inl ⟨by rfl, ?_⟩) ?_ ?_
    rotate_left
    ·intro w'
     go_simp
     with_reducible rfl
    rotate_left
    ·simp only [Act.put, List.setIfInBounds_toArray, List.set_cons_zero, List.set_cons_succ, i64_w, i32_w]
     rfl
    refine pure_ (i := 1) (N := some 93) (v := ?_) (a' := ?_) #[true, true, false, false, false, false, false] rfl rfl (by kernel_rfl) (fun _ _ _ h => h) (Or.inl ⟨by rfl, ?_⟩) ?_ ?_
    rotate_left
    ·intro w'
     go_simp
     with_reducible rfl
    rotate_left
    ·simp only [Act.put, List.setIfInBounds_toArray, List.set_cons_zero, List.set_cons_succ, i64_w, i32_w]
     rfl
    refine pure_ (i := 2) (N := some 94) (v := ?_) (a' := ?_) #[true, true, true, false, false, false, false] rfl rfl (by kernel_rfl) (fun _ _ _ h => h) (Or.inl ⟨by rfl, ?_⟩) ?_ ?_
    rotate_left
    ·intro w'
     go_simp
     with_reducible rfl
    rotate_left
    ·simp only [Act.put, List.setIfInBounds_toArray, List.set_cons_zero, List.set_cons_succ, i64_w, i32_w]
     rfl
    refine take_ (i := 3) (N := some 95) (v := ?_) (a' := ?_) #[true, true, true, true, false, false, false] rfl rfl (by kernel_rfl) (fun _ _ _ h => h) (Or.inl ⟨by rfl, ?_⟩) hHeld ?_ ?_
    rotate_left
    ·intro w' s0
     go_simp
     with_reducible rfl
    rotate_left
    ·simp only [Act.put, List.setIfInBounds_toArray, List.set_cons_zero, List.set_cons_succ, i64_w, i32_w]
     rfl
    refine one_ (i := 4) (N := some 96) #[true, true, true, true, true, false, false] rfl rfl (by kernel_rfl) (by decide) (fun K hK => ?_)
    refine goes_ Tryz.func109 (by kernel_rfl) rfl #[] (by rfl) rfl rfl (by simp only [List.map_toArray, List.map_nil]) ?_
    with_reducible refine (bounds3 _ (HGW.out _ (HPS2.out.bel.drew))).mono ?_
    rintro e w4 ⟨m, Inv, rfl, hR, hI, hb4⟩
    refine ⟨_, rfl, ?_⟩
    refine hK.out _ _ ((hb4.cell (p := ⟨g, 3, none⟩) hgl).trans hc3) (fun hHeld => ?_)
    clear hK K
    refine norm_ (a' := ?_) ?_ ?_
    rotate_left
    ·show Act.put _ (some 96) _ = _
     simp only [Act.put, List.setIfInBounds_toArray, List.set_cons_zero, List.set_cons_succ, i64_w, i32_w]
     rfl
    refine last_ (i := 5) (N := some 97) #[true, true, true, true, true, true, false] rfl rfl (by kernel_rfl) (by decide) (fun K hK => ?_)
    have HP4 := Lib.hid ((HPS2.out.below ((Below.refl _ _).drew)).below hb4)
    refine goesV_ Tryz.func104 (by kernel_rfl) rfl #[.string x3, .agg #[.int .u64 (loK 3 : Nat), .int .u64 (hiK 3 : Nat), .map m]] #[.pointer (some ⟨ge, 0, none⟩)] #[.string x3, .agg #[.int .u64 (loK 3 : Nat), .int .u64 (hiK 3 : Nat), .map m], .pointer (some ⟨ge, 0, none⟩)] rfl (by rfl) (by rfl) rfl rfl (by simp only [List.map_toArray, List.map_cons, List.map_nil]; rfl) ?_
    with_reducible refine (HC3.out m Inv hR _ hI HP4.out.lt e2 (((true && r0.isSome) && r1.isSome) && r2.isSome) HE2.out HP4.out.err HP4.out.free).mono ?_
    rintro e w5 ⟨n, x, rfl, hl5, he5, hn5⟩
    refine ⟨_, rfl, ?_⟩
    have HP5 := Lib.hid (HP4.out.left hl5)
    have HE5 := Lib.hid he5
    have HN5 := Lib.hid hn5
    clear hl5 he5 hn5
    refine hK.out _ _ ?_
    clear hK K
    refine norm_ (a' := ?_) ?_ ?_
    rotate_left
    ·show Act.put _ (some 97) _ = _
     simp only [Act.put, List.setIfInBounds_toArray, List.set_cons_zero, List.set_cons_succ, i64_w, i32_w]
     rfl
    refine pure_ (i := 6) (N := some 16) (v := ?_) (a' := ?_) #[true, true, true, true, true, true, true] rfl rfl (by kernel_rfl) (fun _ _ _ h => h) (Or.inl ⟨by rfl, ?_⟩) ?_ ?_
    rotate_left
    ·intro w'
     go_simp
     with_reducible rfl
    rotate_left
    ·simp only [Act.put, List.setIfInBounds_toArray, List.set_cons_zero, List.set_cons_succ, i64_w, i32_w]
     rfl
    refine done_ (by kernel_rfl) ?_
    go_wp2_with fail
    go_meet
    exact ⟨n, x, rfl, HP5, HE5, HN5⟩
   case rest =>
   obtain ⟨n3, e3, rfl, HPS3, HE3, HN3⟩ := hcut
   obtain ⟨wk3, rfl⟩ : ∃ wk : World, wk = wc := ⟨_, rfl⟩
   clear HPS2 HE2 HC3 HX3
   go_upto_region 26 with fail
   go_cut [17] (fun v wc => ∃ (n : Int) (x : Value), v = .int .u64 n ∧ Hid (PSt w wc g c ge l x) ∧ Hid (ErrSt x (((((true && r0.isSome) && r1.isSome) && r2.isSome) && r3.isSome) && r4.isSome)) ∧ Hid (((((true && r0.isSome) && r1.isSome) && r2.isSome) && r3.isSome) = true → ∀ b, r4 = some b → n = b))
   case first =>
    have hc4 : wk3.cell? ⟨g, 4, none⟩ = some (.string x4) := HPS3.out.txt.at_ 4 _ HX4.out
    have hgl : g < wk3.heap.size := HPS3.out.txt.lt
    refine start_ (n := 7) (S := fun w' => w'.cell? ⟨g, 4, none⟩ = some (.string x4)) (ds := [5]) #[false, false, false, false, false, false, false] (by kernel_rfl) rfl rfl (hc4) (fun hHeld => ?_)
    refine pure_ (i := 0) (N := some 98) (v := ?_) (a' := ?_) #[true, false, false, false, false, false, false] rfl rfl (by kernel_rfl) (fun _ _ _ h => h) (Or.inl ⟨by rfl, ?_⟩) ?_ ?_
    rotate_left
    ·intro w'
     go_simp
     with_reducible rfl
    rotate_left
    ·simp only [Act.put, List.setIfInBounds_toArray, List.set_cons_zero, List.set_cons_succ, i64_w, i32_w]
     rfl
    refine pure_ (i := 1) (N := some 99) (v := ?_) (a' := ?_) #[true, true, false, false, false, false, false] rfl rfl (by kernel_rfl) (fun _ _ _ h => h) (Or.inl ⟨by rfl, ?_⟩) ?_ ?_
    rotate_left
    ·intro w'
     go_simp
     with_reducible rfl
    rotate_left
    ·simp only [Act.put, List.setIfInBounds_toArray, List.set_cons_zero, List.set_cons_succ, i64_w, i32_w]
     rfl
    refine pure_ (i := 2) (N := some 100) (v := ?_) (a' := ?_) #[true, true, true, false, false, false, false] rfl rfl (by kernel_rfl) (fun _ _ _ h => h) (Or.inl ⟨by rfl, ?_⟩) ?_ ?_
    rotate_left
    ·intro w'
     go_simp
     with_reducible rfl
    rotate_left
    ·simp only [Act.put, List.setIfInBounds_toArray, List.set_cons_zero, List.set_cons_succ, i64_w, i32_w]
     rfl
    refine take_ (i := 3) (N := some 101) (v := ?_) (a' := ?_) #[true, true, true, true, false, false, false] rfl rfl (by kernel_rfl) (fun _ _ _ h => h) (Or.inl ⟨by rfl, ?_⟩) hHeld ?_ ?_
    rotate_left
    ·intro w' s0
     go_simp
     with_reducible rfl
    rotate_left
    ·simp only [Act.put, List.setIfInBounds_toArray, List.set_cons_zero, List.set_cons_succ, i64_w, i32_w]
     rfl
    refine one_ (i := 4) (N := some 102) #[true, true, true, true, true, false, false] rfl rfl (by kernel_rfl) (by decide) (fun K hK => ?_)
    refine goes_ Tryz.func110 (by kernel_rfl) rfl #[] (by rfl) rfl rfl (by simp only [List.map_toArray, List.map_nil]) ?_
    with_reducible refine (bounds4 _ (HGW.out _ (HPS3.out.bel.drew))).mono ?_
    rintro e w4 ⟨m, Inv, rfl, hR, hI, hb4⟩
    refine ⟨_, rfl, ?_⟩
    refine hK.out _ _ ((hb4.cell (p := ⟨g, 4, none⟩) hgl).trans hc4) (fun hHeld => ?_)
    clear hK K
    refine norm_ (a' := ?_) ?_ ?_
    rotate_left
    ·show Act.put _ (some 102) _ = _
     simp only [Act.put, List.setIfInBounds_toArray, List.set_cons_zero, List.set_cons_succ, i64_w, i32_w]
     rfl
    refine last_ (i := 5) (N := some 103) #[true, true, true, true, true, true, false] rfl rfl (by kernel_rfl) (by decide) (fun K hK => ?_)
    have HP4 := Lib.hid ((HPS3.out.below ((Below.refl _ _).drew)).below hb4)
    refine goesV_ Tryz.func104 (by kernel_rfl) rfl #[.string x4, .agg #[.int .u64 (loK 4 : Nat), .int .u64 (hiK 4 : Nat), .map m]] #[.pointer (some ⟨ge, 0, none⟩)] #[.string x4, .agg #[.int .u64 (loK 4 : Nat), .int .u64 (hiK 4 : Nat), .map m], .pointer (some ⟨ge, 0, none⟩)] rfl (by rfl) (by rfl) rfl rfl (by simp only [List.map_toArray, List.map_cons, List.map_nil]; rfl) ?_
    with_reducible refine (HC4.out m Inv hR _ hI HP4.out.lt e3 ((((true && r0.isSome) && r1.isSome) && r2.isSome) && r3.isSome) HE3.out HP4.out.err HP4.out.free).mono ?_
    rintro e w5 ⟨n, x, rfl, hl5, he5, hn5⟩
    refine ⟨_, rfl, ?_⟩
    have HP5 := Lib.hid (HP4.out.left hl5)
    have HE5 := Lib.hid he5
    have HN5 := Lib.hid hn5
    clear hl5 he5 hn5
    refine hK.out _ _ ?_
    clear hK K
    refine norm_ (a' := ?_) ?_ ?_
    rotate_left
    ·show Act.put _ (some 103) _ = _
     simp only [Act.put, List.setIfInBounds_toArray, List.set_cons_zero, List.set_cons_succ, i64_w, i32_w]
     rfl
    refine pure_ (i := 6) (N := some 17) (v := ?_) (a' := ?_) #[true, true, true, true, true, true, true] rfl rfl (by kernel_rfl) (fun _ _ _ h => h) (Or.inl ⟨by rfl, ?_⟩) ?_ ?_
    rotate_left
    ·intro w'
     go_simp
     with_reducible rfl
    rotate_left
    ·simp only [Act.put, List.setIfInBounds_toArray, List.set_cons_zero, List.set_cons_succ, i64_w, i32_w]
     rfl
    refine done_ (by kernel_rfl) ?_
    go_wp2_with fail
    go_meet
    exact ⟨n, x, rfl, HP5, HE5, HN5⟩
   case rest =>
   obtain ⟨n4, e4, rfl, HPS4, HE4, HN4⟩ := hcut
   obtain ⟨wk4, rfl⟩ : ∃ wk : World, wk = wc := ⟨_, rfl⟩
   clear HPS3 HE3 HC4 HX4
   go_upto_region 27 with fail
   go_cut [18] (fun v wc => ∃ (n : Int) (x : Value), v = .int .u64 n ∧ Hid (PSt w wc g c ge l x) ∧ Hid (ErrSt x ((((((true && r0.isSome) && r1.isSome) && r2.isSome) && r3.isSome) && r4.isSome) && r5.isSome)) ∧ Hid ((((((true && r0.isSome) && r1.isSome) && r2.isSome) && r3.isSome) && r4.isSome) = true → ∀ b, r5 = some b → n = b))
   case first =>
    have hc5 : wk4.cell? ⟨g, 5, none⟩ = some (.string x5) := HPS4.out.txt.at_ 5 _ HX5.out
    have hgl : g < wk4.heap.size := HPS4.out.txt.lt
    refine start_ (n := 7) (S := fun w' => w'.cell? ⟨g, 5, none⟩ = some (.string x5)) (ds := [5]) #[false, false, false, false, false, false, false] (by kernel_rfl) rfl rfl (hc5) (fun hHeld => ?_)
    refine pure_ (i := 0) (N := some 104) (v := ?_) (a' := ?_) #[true, false, false, false, false, false, false] rfl rfl (by kernel_rfl) (fun _ _ _ h => h) (Or.inl ⟨by rfl, ?_⟩) ?_ ?_
    rotate_left
    ·intro w'
     go_simp
     with_reducible rfl
    rotate_left
    ·simp only [Act.put, List.setIfInBounds_toArray, List.set_cons_zero, List.set_cons_succ, i64_w, i32_w]
     rfl
    refine pure_ (i := 1) (N := some 105) (v := ?_) (a' := ?_) #[true, true, false, false, false, false, false] rfl rfl (by kernel_rfl) (fun _ _ _ h => h) (Or.inl ⟨by rfl, ?_⟩) ?_ ?_
    rotate_left
    ·intro w'
     go_simp
     with_reducible rfl
    rotate_left
    ·simp only [Act.put, List.setIfInBounds_toArray, List.set_cons_zero, List.set_cons_succ, i64_w, i32_w]
     rfl
    refine pure_ (i := 2) (N := some 106) (v := ?_) (a' := ?_) #[true, true, true, false, false, false, false] rfl rfl (by kernel_rfl) (fun _ _ _ h => h) (Or.inl ⟨by rfl, ?_⟩) ?_ ?_
    rotate_left
    ·intro w'
     go_simp
     with_reducible rfl
    rotate_left
    ·simp only [Act.put, List.setIfInBounds_toArray, List.set_cons_zero, List.set_cons_succ, i64_w, i32_w]
     rfl
    refine take_ (i := 3) (N := some 107) (v := ?_) (a' := ?_) #[true, true, true, true, false, false, false] rfl rfl (by kernel_rfl) (fun _ _ _ h => h) (Or.inl ⟨by rfl, ?_⟩) hHeld ?_ ?_
    rotate_left
    ·intro w' s0
     go_simp
     with_reducible rfl
    rotate_left
    ·simp only [Act.put, List.setIfInBounds_toArray, List.set_cons_zero, List.set_cons_succ, i64_w, i32_w]
     rfl
    refine one_ (i := 4) (N := some 108) #[true, true, true, true, true, false, false] rfl rfl (by kernel_rfl) (by decide) (fun K hK => ?_)
    refine goes_ Tryz.func111 (by kernel_rfl) rfl #[] (by rfl) rfl rfl (by simp only [List.map_toArray, List.map_nil]) ?_
    with_reducible refine (bounds5 _ (HGW.out _ (HPS4.out.bel.drew))).mono ?_
    rintro e w4 ⟨m, Inv, rfl, hR, hI, hb4⟩
    refine ⟨_, rfl, ?_⟩
    refine hK.out _ _ ((hb4.cell (p := ⟨g, 5, none⟩) hgl).trans hc5) (fun hHeld => ?_)
    clear hK K
    refine norm_ (a' := ?_) ?_ ?_
    rotate_left
    ·show Act.put _ (some 108) _ = _
     simp only [Act.put, List.setIfInBounds_toArray, List.set_cons_zero, List.set_cons_succ, i64_w, i32_w]
     rfl
    refine last_ (i := 5) (N := some 109) #[true, true, true, true, true, true, false] rfl rfl (by kernel_rfl) (by decide) (fun K hK => ?_)
    have HP4 := Lib.hid ((HPS4.out.below ((Below.refl _ _).drew)).below hb4)
    refine goesV_ Tryz.func104 (by kernel_rfl) rfl #[.string x5, .agg #[.int .u64 (loK 5 : Nat), .int .u64 (hiK 5 : Nat), .map m]] #[.pointer (some ⟨ge, 0, none⟩)] #[.string x5, .agg #[.int .u64 (loK 5 : Nat), .int .u64 (hiK 5 : Nat), .map m], .pointer (some ⟨ge, 0, none⟩)] rfl (by rfl) (by rfl) rfl rfl (by simp only [List.map_toArray, List.map_cons, List.map_nil]; rfl) ?_
    with_reducible refine (HC5.out m Inv hR _ hI HP4.out.lt e4 (((((true && r0.isSome) && r1.isSome) && r2.isSome) && r3.isSome) && r4.isSome) HE4.out HP4.out.err HP4.out.free).mono ?_
    rintro e w5 ⟨n, x, rfl, hl5, he5, hn5⟩
    refine ⟨_, rfl, ?_⟩
    have HP5 := Lib.hid (HP4.out.left hl5)
    have HE5 := Lib.hid he5
    have HN5 := Lib.hid hn5
    clear hl5 he5 hn5
    refine hK.out _ _ ?_
    clear hK K
    refine norm_ (a' := ?_) ?_ ?_
    rotate_left
    ·show Act.put _ (some 109) _ = _
     simp only [Act.put, List.setIfInBounds_toArray, List.set_cons_zero, List.set_cons_succ, i64_w, i32_w]
     rfl
    refine pure_ (i := 6) (N := some 18) (v := ?_) (a' := ?_) #[true, true, true, true, true, true, true] rfl rfl (by kernel_rfl) (fun _ _ _ h => h) (Or.inl ⟨by rfl, ?_⟩) ?_ ?_
    rotate_left
    ·intro w'
     go_simp
     with_reducible rfl
    rotate_left
    ·simp only [Act.put, List.setIfInBounds_toArray, List.set_cons_zero, List.set_cons_succ, i64_w, i32_w]
     rfl
    refine done_ (by kernel_rfl) ?_
    go_wp2_with fail
    go_meet
    exact ⟨n, x, rfl, HP5, HE5, HN5⟩
   case rest =>
   obtain ⟨n5, e5, rfl, HPS5, HE5, HN5⟩ := hcut
   obtain ⟨wk5, rfl⟩ : ∃ wk : World, wk = wc := ⟨_, rfl⟩
   clear HPS4 HE4 HC5 HX5
   have hcE := HPS5.out.err
   have hB6 := Lib.hid HPS5.out.bel
   clear HPS5
   cases hok : (((((true && r0.isSome) && r1.isSome) && r2.isSome) && r3.isSome) && r4.isSome && r5.isSome) with
   | true =>
    have hk : r0.isSome = true ∧ r1.isSome = true ∧ r2.isSome = true ∧ r3.isSome = true ∧ r4.isSome = true ∧ r5.isSome = true := by
     simpa [Bool.and_eq_true, and_assoc] using hok
    obtain ⟨k0, k1, k2, k3, k4, k5⟩ := hk
    obtain ⟨b0, rfl⟩ := Option.isSome_iff_exists.1 k0
    obtain ⟨b1, rfl⟩ := Option.isSome_iff_exists.1 k1
    obtain ⟨b2, rfl⟩ := Option.isSome_iff_exists.1 k2
    obtain ⟨b3, rfl⟩ := Option.isSome_iff_exists.1 k3
    obtain ⟨b4, rfl⟩ := Option.isSome_iff_exists.1 k4
    obtain ⟨b5, rfl⟩ := Option.isSome_iff_exists.1 k5
    obtain rfl := HN0.out rfl b0 rfl
    obtain rfl := HN1.out rfl b1 rfl
    obtain rfl := HN2.out rfl b2 rfl
    obtain rfl := HN3.out rfl b3 rfl
    obtain rfl := HN4.out rfl b4 rfl
    obtain rfl := HN5.out rfl b5 rfl
    have he5 := errSt_ok HE5.out rfl
    subst he5
    have HX6 : Hid (parseS s o = some [b0, b1, b2, b3, b4, b5]) := Lib.hid (by rw [HX.out]; exact HS.out b0 b1 b2 b3 b4 b5 rfl rfl rfl rfl rfl rfl)
    clear hok k0 k1 k2 k3 k4 k5 HN HN0 HN1 HN2 HN3 HN4 HN5 HS HE5
    go_wp2_with fail
    go_ret2
    rw [HX6.out]
    exact ⟨⟨wk5.heap.size, rfl, heap_alloc_new wk5 _⟩, hB6.out.alloc hB6.out.size _⟩
   | false =>
    obtain ⟨t, x, rfl⟩ := errSt_bad HE5.out (by simpa [Bool.and_assoc] using hok)
    have HX6 : Hid (parseS s o = none) := Lib.hid (by rw [HX.out]; exact HN.out hok)
    clear hok
    go_wp2_with fail
    go_quiet (fail)
    go_wp2_with fail
    go_ret2
    rw [HX6.out]
    exact ⟨⟨t, x, rfl⟩, below_of_le hB6.out (below_drewN _ nq)⟩
end Go.Proofs.YtmecbmgfacpecaaGreatDoor.Cron
namespace Go.Proofs.YtmecbmgfacpecaaGreatDoor.Cron
open Go Go.RowKit Go.Proofs.YtmecbmgfacpecaaGreatDoor.Text Go.Proofs.YtmecbmgfacpecaaGreatDoor.Bits
set_option linter.unusedVariables false
set_option linter.unusedSimpArgs false
theorem newParser_ok (o : Nat) (ho : o < 512) (h : ¬ (0 < o &&& 128 ∧ 0 < o &&& 2)) (w : World) :
  Calls Tryz.prog 95 #[.int .i64 o] w fun e w' => e = .returned (.agg #[.int .i64 o]) ∧ Below w.heap.size w w' := by
 have hand1 : bits .and .i64 (o : Int) 2 = ((o &&& 2 : Nat) : Int) := and_i64 (b := 2) (by omega) (by decide)
 have hand2 : bits .and .i64 (o : Int) 128 = ((o &&& 128 : Nat) : Int) := and_i64 (b := 128) (by omega) (by decide)
 generalize o &&& 2 = a at *
 generalize o &&& 128 = b at *
 by_cases h1 : 0 < b
 ·have h2 : ¬ 0 < a := fun h2 => h ⟨h1, h2⟩
  have d1 : decide (0 < (b : Int)) = true := decide_eq_true (by omega)
  have d2 : decide (0 < (a : Int)) = false := decide_eq_false (by omega)
  go_enter Tryz.func95, Tryz.ntmps95
  go_wp2
  exact bodyPost_ret (v := .agg #[.int .i64 o]) (by simp [results, Tryz.results95, go_sem]) rfl ⟨rfl, (Below.refl _ _).alloc (Nat.le_refl _) _⟩
 ·have d1 : decide (0 < (b : Int)) = false := decide_eq_false (by omega)
  by_cases h2 : 0 < a
  ·have d2 : decide (0 < (a : Int)) = true := decide_eq_true (by omega)
   go_enter Tryz.func95, Tryz.ntmps95
   go_wp2
   exact bodyPost_ret (v := .agg #[.int .i64 o]) (by simp [results, Tryz.results95, go_sem]) rfl ⟨rfl, (Below.refl _ _).alloc (Nat.le_refl _) _⟩
  ·have d2 : decide (0 < (a : Int)) = false := decide_eq_false (by omega)
   go_enter Tryz.func95, Tryz.ntmps95
   go_wp2
   exact bodyPost_ret (v := .agg #[.int .i64 o]) (by simp [results, Tryz.results95, go_sem]) rfl ⟨rfl, (Below.refl _ _).alloc (Nat.le_refl _) _⟩
end Go.Proofs.YtmecbmgfacpecaaGreatDoor.Cron
namespace Go.Proofs.YtmecbmgfacpecaaGreatDoor.Cron
open Go Go.RowKit Go.Proofs.YtmecbmgfacpecaaGreatDoor.Text Go.Proofs.YtmecbmgfacpecaaGreatDoor.Bits Go.Proofs.YtmecbmgfacpecaaGreatDoorW.PrintWords Go.Proofs.YtmecbmgfacpecaaGreatDoorW.PrintLast Go.Proofs.YtmecbmgfacpecaaGreatDoorW.PrintMore
set_option linter.unusedVariables false
set_option linter.unusedSimpArgs false
def schedCells (l : List Nat) : Array Value := #[.bool false, .int .i64 0, .int .u64 (l.getD 0 0 : Nat), .int .u64 (l.getD 1 0 : Nat), .int .u64 (l.getD 2 0 : Nat), .int .u64 (l.getD 3 0 : Nat), .int .u64 (l.getD 4 0 : Nat), .int .u64 (l.getD 5 0 : Nat)]
def noSched : Array Value := #[.bool false, .int .i64 0, .int .u64 0, .int .u64 0, .int .u64 0, .int .u64 0, .int .u64 0, .int .u64 0]
def CronAns (w : World) (r : Option (List Nat)) (e : Ending) (w' : World) : Prop :=
 (match r with
  | some l => e = .returned (.tuple #[.agg (schedCells l), .bool true])
  | none => e = .returned (.tuple #[.agg noSched, .bool false])) ∧ Below w.heap.size w w'
theorem schedSize : (Tryz.prog.info? 26).map (·.size) = some 8 := by kernel_rfl
theorem results_sched {fn : Func} {p u : Tmp} (h : fn.results = #[.cell p 26, .tmp u]) (tmps : Array Value) (w : World) (g : Nat) (cs : Array Value) (h8 : cs.size = 8)
  (hp : tmps.getD p undef = .pointer (some ⟨g, 0, none⟩)) (hs : w.heap[g]? = some (.cells cs 26 (0, 0))) :
  (results fn tmps).run Tryz.prog w = .ok (.tuple #[.agg cs, tmps.getD u undef]) w := by
 rw [results_cell_tmp h, hp]
 simp only [asAddr, Sem.run_pure, Result.andThen_ok, run_loadVar_row w g _ _ _ _ _ hs Tryz.underlying26 rfl (by rw [schedSize, h8])]
section
variable {ops : Array Oper} {rest : List Oper} {o : Oper} {a : Act} {w : World} {Q : Exit → Act → World → Prop}
theorem wpList_store_sched (hg : o.guard = none) (x y : Operand) (ho : o.op = .store 26 x y) (g : Nat) (cs old : Array Value)
  (hx : a.eval x = .pointer (some ⟨g, 0, none⟩)) (hy : a.eval y = .agg cs) (h8 : cs.size = 8) (h1 : cs.all (·.oneCell') = true) (h8' : old.size = 8) (hs : w.heap[g]? = some (.cells old 26 (0, 0)))
  (h : wpList Tryz.prog ops Q rest (a.put o.dst undef) (w.setRow g cs)) : wpList Tryz.prog ops Q (o :: rest) a w :=
 wpList_store_row hg 26 x y ho g _ hx hy _ _ hs (by rw [schedSize, h8]) (by rw [h8, h8']) h1 h
end
theorem sched_one (l : List Nat) : (schedCells l).all (·.oneCell') = true := by simp [schedCells, Value.oneCell']
theorem noSched_one : noSched.all (·.oneCell') = true := by simp [noSched, Value.oneCell']
theorem plainSched_bad (s : Value) (t : TypeId) (x : Value) (w : World) :
  Calls Tryz.prog 46 #[s, .iface t x] w fun e w' => e = .returned (.tuple #[.agg noSched, .bool false]) ∧ Below w.heap.size w w' := by
 go_enter Tryz.func46, Tryz.ntmps46
 go_wp2_with fail
 exact bodyPost_ret (v := .tuple #[.agg noSched, .bool false]) (by simp [results, Tryz.results46, go_sem, noSched]) rfl ⟨rfl, (Below.refl _ _).alloc (Nat.le_refl _) _⟩
set_option maxRecDepth 100000 in
theorem plainSched_ok (l : List Nat) (g : Nat) (loc : Option Addr) (w : World) (hc : w.heap[g]? = some (.cells (specCells l loc) 171 (0, 0))) :
  Calls Tryz.prog 46 #[.iface 169 (.pointer (some ⟨g, 0, none⟩)), .nilIface] w fun e w' => e = .returned (.tuple #[.agg (schedCells l), .bool true]) ∧ Below w.heap.size w w' := by
 have hlt : g < w.heap.size := (Array.getElem?_eq_some_iff.1 hc).1
 have c0 : w.cell? ⟨g, 0, none⟩ = some (.int .u64 (l.getD 0 0 : Nat)) := cell_of_row _ _ _ _ _ _ hc
 have c1 : w.cell? ⟨g, 1, none⟩ = some (.int .u64 (l.getD 1 0 : Nat)) := cell_of_row _ _ _ _ _ _ hc
 have c2 : w.cell? ⟨g, 2, none⟩ = some (.int .u64 (l.getD 2 0 : Nat)) := cell_of_row _ _ _ _ _ _ hc
 have c3 : w.cell? ⟨g, 3, none⟩ = some (.int .u64 (l.getD 3 0 : Nat)) := cell_of_row _ _ _ _ _ _ hc
 have c4 : w.cell? ⟨g, 4, none⟩ = some (.int .u64 (l.getD 4 0 : Nat)) := cell_of_row _ _ _ _ _ _ hc
 have c5 : w.cell? ⟨g, 5, none⟩ = some (.int .u64 (l.getD 5 0 : Nat)) := cell_of_row _ _ _ _ _ _ hc
 unfold schedCells
 clear hc
 generalize l.getD 0 0 = a0 at *
 generalize l.getD 1 0 = a1 at *
 generalize l.getD 2 0 = a2 at *
 generalize l.getD 3 0 = a3 at *
 generalize l.getD 4 0 = a4 at *
 generalize l.getD 5 0 = a5 at *
 have hta : ∀ (v : Value) (w : World), (Instr.typeAssert (.iface 169 v) 110 169 true).run Tryz.prog w = .ok (.tuple #[v, .bool true]) w := fun v w => by rfl
 go_enter Tryz.func46, Tryz.ntmps46
 go_wp2_with fail
 generalize hW : World.alloc w _ = w1
 have hB1 : Below w.heap.size w w1 := by rw [← hW]; exact (Below.refl _ _).alloc (Nat.le_refl _) _
 have hrow : w1.heap[w.heap.size]? = some (.cells noSched 26 (0, 0)) := by rw [← hW]; exact heap_alloc_new w _
 clear hW
 have d0 := (hB1.cell (p := ⟨g, 0, none⟩) hlt).trans c0
 have d1 := (hB1.cell (p := ⟨g, 1, none⟩) hlt).trans c1
 have d2 := (hB1.cell (p := ⟨g, 2, none⟩) hlt).trans c2
 have d3 := (hB1.cell (p := ⟨g, 3, none⟩) hlt).trans c3
 have d4 := (hB1.cell (p := ⟨g, 4, none⟩) hlt).trans c4
 have d5 := (hB1.cell (p := ⟨g, 5, none⟩) hlt).trans c5
 clear c0 c1 c2 c3 c4 c5
 refine start_ (n := 27) (S := fun w' => w'.cell? ⟨g, 0, none⟩ = some (.int .u64 a0) ∧ w'.cell? ⟨g, 1, none⟩ = some (.int .u64 a1) ∧ w'.cell? ⟨g, 2, none⟩ = some (.int .u64 a2) ∧ w'.cell? ⟨g, 3, none⟩ = some (.int .u64 a3) ∧ w'.cell? ⟨g, 4, none⟩ = some (.int .u64 a4) ∧ w'.cell? ⟨g, 5, none⟩ = some (.int .u64 a5)) (ds := [25]) #[false, false, false, false, false, false, false, false, false, false, false, false, false, false, false, false, false, false, false, false, false, false, false, false, false, false, false] (by kernel_rfl) rfl rfl ⟨d0, d1, d2, d3, d4, d5⟩ (fun hHeld => ?_)
 refine pure_ (i := 0) (N := some 15) (v := ?_) (a' := ?_) #[true, false, false, false, false, false, false, false, false, false, false, false, false, false, false, false, false, false, false, false, false, false, false, false, false, false, false] rfl rfl (by kernel_rfl) (fun _ _ _ h => h) (Or.inl ⟨by rfl, ?_⟩) ?_ ?_
 rotate_left
 ·intro w'
  go_simp
  with_reducible rfl
 rotate_left
 ·simp only [Act.put, List.setIfInBounds_toArray, List.set_cons_zero, List.set_cons_succ, i64_w, i32_w]
  rfl
 refine pure_ (i := 1) (N := some 16) (v := ?_) (a' := ?_) #[true, true, false, false, false, false, false, false, false, false, false, false, false, false, false, false, false, false, false, false, false, false, false, false, false, false, false] rfl rfl (by kernel_rfl) (fun _ _ _ h => h) (Or.inl ⟨by rfl, ?_⟩) ?_ ?_
 rotate_left
 ·intro w'
  go_simp
  with_reducible rfl
 rotate_left
 ·simp only [Act.put, List.setIfInBounds_toArray, List.set_cons_zero, List.set_cons_succ, i64_w, i32_w]
  rfl
 refine pure_ (i := 2) (N := some 17) (v := ?_) (a' := ?_) #[true, true, true, false, false, false, false, false, false, false, false, false, false, false, false, false, false, false, false, false, false, false, false, false, false, false, false] rfl rfl (by kernel_rfl) (fun _ _ _ h => h) (Or.inl ⟨by rfl, ?_⟩) ?_ ?_
 rotate_left
 ·intro w'
  go_simp
  with_reducible rfl
 rotate_left
 ·simp only [Act.put, List.setIfInBounds_toArray, List.set_cons_zero, List.set_cons_succ, i64_w, i32_w]
  rfl
 refine pure_ (i := 4) (N := some 19) (v := ?_) (a' := ?_) #[true, true, true, false, true, false, false, false, false, false, false, false, false, false, false, false, false, false, false, false, false, false, false, false, false, false, false] rfl rfl (by kernel_rfl) (fun _ _ _ h => h) (Or.inl ⟨by rfl, ?_⟩) ?_ ?_
 rotate_left
 ·intro w'
  go_simp
  with_reducible rfl
 rotate_left
 ·simp only [Act.put, List.setIfInBounds_toArray, List.set_cons_zero, List.set_cons_succ, i64_w, i32_w]
  rfl
 refine pure_ (i := 5) (N := some 20) (v := ?_) (a' := ?_) #[true, true, true, false, true, true, false, false, false, false, false, false, false, false, false, false, false, false, false, false, false, false, false, false, false, false, false] rfl rfl (by kernel_rfl) (fun _ _ _ h => h) (Or.inl ⟨by rfl, ?_⟩) ?_ ?_
 rotate_left
 ·intro w'
  go_simp
  with_reducible rfl
 rotate_left
 ·simp only [Act.put, List.setIfInBounds_toArray, List.set_cons_zero, List.set_cons_succ, i64_w, i32_w]
  rfl
 refine pure_ (i := 6) (N := some 21) (v := ?_) (a' := ?_) #[true, true, true, false, true, true, true, false, false, false, false, false, false, false, false, false, false, false, false, false, false, false, false, false, false, false, false] rfl rfl (by kernel_rfl) (fun _ _ _ h => h) (Or.inl ⟨by rfl, ?_⟩) ?_ ?_
 rotate_left
 ·intro w'
  go_simp
  with_reducible rfl
 rotate_left
 ·simp only [Act.put, List.setIfInBounds_toArray, List.set_cons_zero, List.set_cons_succ, i64_w, i32_w]
  rfl
 refine pure_ (i := 8) (N := some 23) (v := ?_) (a' := ?_) #[true, true, true, false, true, true, true, false, true, false, false, false, false, false, false, false, false, false, false, false, false, false, false, false, false, false, false] rfl rfl (by kernel_rfl) (fun _ _ _ h => h) (Or.inl ⟨by rfl, ?_⟩) ?_ ?_
 rotate_left
 ·intro w'
  go_simp
  with_reducible rfl
 rotate_left
 ·simp only [Act.put, List.setIfInBounds_toArray, List.set_cons_zero, List.set_cons_succ, i64_w, i32_w]
  rfl
 refine pure_ (i := 9) (N := some 24) (v := ?_) (a' := ?_) #[true, true, true, false, true, true, true, false, true, true, false, false, false, false, false, false, false, false, false, false, false, false, false, false, false, false, false] rfl rfl (by kernel_rfl) (fun _ _ _ h => h) (Or.inl ⟨by rfl, ?_⟩) ?_ ?_
 rotate_left
 ·intro w'
  go_simp
  with_reducible rfl
 rotate_left
 ·simp only [Act.put, List.setIfInBounds_toArray, List.set_cons_zero, List.set_cons_succ, i64_w, i32_w]
  rfl
 refine pure_ (i := 10) (N := some 25) (v := ?_) (a' := ?_) #[true, true, true, false, true, true, true, false, true, true, true, false, false, false, false, false, false, false, false, false, false, false, false, false, false, false, false] rfl rfl (by kernel_rfl) (fun _ _ _ h => h) (Or.inl ⟨by rfl, ?_⟩) ?_ ?_
 rotate_left
 ·intro w'
  go_simp
  with_reducible rfl
 rotate_left
 ·simp only [Act.put, List.setIfInBounds_toArray, List.set_cons_zero, List.set_cons_succ, i64_w, i32_w]
  rfl
 refine pure_ (i := 12) (N := some 27) (v := ?_) (a' := ?_) #[true, true, true, false, true, true, true, false, true, true, true, false, true, false, false, false, false, false, false, false, false, false, false, false, false, false, false] rfl rfl (by kernel_rfl) (fun _ _ _ h => h) (Or.inl ⟨by rfl, ?_⟩) ?_ ?_
 rotate_left
 ·intro w'
  go_simp
  with_reducible rfl
 rotate_left
 ·simp only [Act.put, List.setIfInBounds_toArray, List.set_cons_zero, List.set_cons_succ, i64_w, i32_w]
  rfl
 refine pure_ (i := 13) (N := some 28) (v := ?_) (a' := ?_) #[true, true, true, false, true, true, true, false, true, true, true, false, true, true, false, false, false, false, false, false, false, false, false, false, false, false, false] rfl rfl (by kernel_rfl) (fun _ _ _ h => h) (Or.inl ⟨by rfl, ?_⟩) ?_ ?_
 rotate_left
 ·intro w'
  go_simp
  with_reducible rfl
 rotate_left
 ·simp only [Act.put, List.setIfInBounds_toArray, List.set_cons_zero, List.set_cons_succ, i64_w, i32_w]
  rfl
 refine pure_ (i := 14) (N := some 29) (v := ?_) (a' := ?_) #[true, true, true, false, true, true, true, false, true, true, true, false, true, true, true, false, false, false, false, false, false, false, false, false, false, false, false] rfl rfl (by kernel_rfl) (fun _ _ _ h => h) (Or.inl ⟨by rfl, ?_⟩) ?_ ?_
 rotate_left
 ·intro w'
  go_simp
  with_reducible rfl
 rotate_left
 ·simp only [Act.put, List.setIfInBounds_toArray, List.set_cons_zero, List.set_cons_succ, i64_w, i32_w]
  rfl
 refine pure_ (i := 16) (N := some 31) (v := ?_) (a' := ?_) #[true, true, true, false, true, true, true, false, true, true, true, false, true, true, true, false, true, false, false, false, false, false, false, false, false, false, false] rfl rfl (by kernel_rfl) (fun _ _ _ h => h) (Or.inl ⟨by rfl, ?_⟩) ?_ ?_
 rotate_left
 ·intro w'
  go_simp
  with_reducible rfl
 rotate_left
 ·simp only [Act.put, List.setIfInBounds_toArray, List.set_cons_zero, List.set_cons_succ, i64_w, i32_w]
  rfl
 refine pure_ (i := 17) (N := some 32) (v := ?_) (a' := ?_) #[true, true, true, false, true, true, true, false, true, true, true, false, true, true, true, false, true, true, false, false, false, false, false, false, false, false, false] rfl rfl (by kernel_rfl) (fun _ _ _ h => h) (Or.inl ⟨by rfl, ?_⟩) ?_ ?_
 rotate_left
 ·intro w'
  go_simp
  with_reducible rfl
 rotate_left
 ·simp only [Act.put, List.setIfInBounds_toArray, List.set_cons_zero, List.set_cons_succ, i64_w, i32_w]
  rfl
 refine pure_ (i := 18) (N := some 33) (v := ?_) (a' := ?_) #[true, true, true, false, true, true, true, false, true, true, true, false, true, true, true, false, true, true, true, false, false, false, false, false, false, false, false] rfl rfl (by kernel_rfl) (fun _ _ _ h => h) (Or.inl ⟨by rfl, ?_⟩) ?_ ?_
 rotate_left
 ·intro w'
  go_simp
  with_reducible rfl
 rotate_left
 ·simp only [Act.put, List.setIfInBounds_toArray, List.set_cons_zero, List.set_cons_succ, i64_w, i32_w]
  rfl
 refine pure_ (i := 20) (N := some 35) (v := ?_) (a' := ?_) #[true, true, true, false, true, true, true, false, true, true, true, false, true, true, true, false, true, true, true, false, true, false, false, false, false, false, false] rfl rfl (by kernel_rfl) (fun _ _ _ h => h) (Or.inl ⟨by rfl, ?_⟩) ?_ ?_
 rotate_left
 ·intro w'
  go_simp
  with_reducible rfl
 rotate_left
 ·simp only [Act.put, List.setIfInBounds_toArray, List.set_cons_zero, List.set_cons_succ, i64_w, i32_w]
  rfl
 refine pure_ (i := 21) (N := some 36) (v := ?_) (a' := ?_) #[true, true, true, false, true, true, true, false, true, true, true, false, true, true, true, false, true, true, true, false, true, true, false, false, false, false, false] rfl rfl (by kernel_rfl) (fun _ _ _ h => h) (Or.inl ⟨by rfl, ?_⟩) ?_ ?_
 rotate_left
 ·intro w'
  go_simp
  with_reducible rfl
 rotate_left
 ·simp only [Act.put, List.setIfInBounds_toArray, List.set_cons_zero, List.set_cons_succ, i64_w, i32_w]
  rfl
 refine pure_ (i := 22) (N := some 37) (v := ?_) (a' := ?_) #[true, true, true, false, true, true, true, false, true, true, true, false, true, true, true, false, true, true, true, false, true, true, true, false, false, false, false] rfl rfl (by kernel_rfl) (fun _ _ _ h => h) (Or.inl ⟨by rfl, ?_⟩) ?_ ?_
 rotate_left
 ·intro w'
  go_simp
  with_reducible rfl
 rotate_left
 ·simp only [Act.put, List.setIfInBounds_toArray, List.set_cons_zero, List.set_cons_succ, i64_w, i32_w]
  rfl
 refine take_ (i := 3) (N := some 18) (v := ?_) (a' := ?_) #[true, true, true, true, true, true, true, false, true, true, true, false, true, true, true, false, true, true, true, false, true, true, true, false, false, false, false] rfl rfl (by kernel_rfl) (fun _ _ _ h => h) (Or.inl ⟨by rfl, ?_⟩) hHeld ?_ ?_
 rotate_left
 ·rintro w' ⟨s0, s1, s2, s3, s4, s5⟩
  go_simp
  with_reducible rfl
 rotate_left
 ·simp only [Act.put, List.setIfInBounds_toArray, List.set_cons_zero, List.set_cons_succ, i64_w, i32_w]
  rfl
 refine take_ (i := 7) (N := some 22) (v := ?_) (a' := ?_) #[true, true, true, true, true, true, true, true, true, true, true, false, true, true, true, false, true, true, true, false, true, true, true, false, false, false, false] rfl rfl (by kernel_rfl) (fun _ _ _ h => h) (Or.inl ⟨by rfl, ?_⟩) hHeld ?_ ?_
 rotate_left
 ·rintro w' ⟨s0, s1, s2, s3, s4, s5⟩
  go_simp
  with_reducible rfl
 rotate_left
 ·simp only [Act.put, List.setIfInBounds_toArray, List.set_cons_zero, List.set_cons_succ, i64_w, i32_w]
  rfl
 refine take_ (i := 11) (N := some 26) (v := ?_) (a' := ?_) #[true, true, true, true, true, true, true, true, true, true, true, true, true, true, true, false, true, true, true, false, true, true, true, false, false, false, false] rfl rfl (by kernel_rfl) (fun _ _ _ h => h) (Or.inl ⟨by rfl, ?_⟩) hHeld ?_ ?_
 rotate_left
 ·rintro w' ⟨s0, s1, s2, s3, s4, s5⟩
  go_simp
  with_reducible rfl
 rotate_left
 ·simp only [Act.put, List.setIfInBounds_toArray, List.set_cons_zero, List.set_cons_succ, i64_w, i32_w]
  rfl
 refine take_ (i := 15) (N := some 30) (v := ?_) (a' := ?_) #[true, true, true, true, true, true, true, true, true, true, true, true, true, true, true, true, true, true, true, false, true, true, true, false, false, false, false] rfl rfl (by kernel_rfl) (fun _ _ _ h => h) (Or.inl ⟨by rfl, ?_⟩) hHeld ?_ ?_
 rotate_left
 ·rintro w' ⟨s0, s1, s2, s3, s4, s5⟩
  go_simp
  with_reducible rfl
 rotate_left
 ·simp only [Act.put, List.setIfInBounds_toArray, List.set_cons_zero, List.set_cons_succ, i64_w, i32_w]
  rfl
 refine take_ (i := 19) (N := some 34) (v := ?_) (a' := ?_) #[true, true, true, true, true, true, true, true, true, true, true, true, true, true, true, true, true, true, true, true, true, true, true, false, false, false, false] rfl rfl (by kernel_rfl) (fun _ _ _ h => h) (Or.inl ⟨by rfl, ?_⟩) hHeld ?_ ?_
 rotate_left
 ·rintro w' ⟨s0, s1, s2, s3, s4, s5⟩
  go_simp
  with_reducible rfl
 rotate_left
 ·simp only [Act.put, List.setIfInBounds_toArray, List.set_cons_zero, List.set_cons_succ, i64_w, i32_w]
  rfl
 refine take_ (i := 23) (N := some 38) (v := ?_) (a' := ?_) #[true, true, true, true, true, true, true, true, true, true, true, true, true, true, true, true, true, true, true, true, true, true, true, true, false, false, false] rfl rfl (by kernel_rfl) (fun _ _ _ h => h) (Or.inl ⟨by rfl, ?_⟩) hHeld ?_ ?_
 rotate_left
 ·rintro w' ⟨s0, s1, s2, s3, s4, s5⟩
  go_simp
  with_reducible rfl
 rotate_left
 ·simp only [Act.put, List.setIfInBounds_toArray, List.set_cons_zero, List.set_cons_succ, i64_w, i32_w]
  rfl
 refine pure_ (i := 24) (N := some 39) (v := ?_) (a' := ?_) #[true, true, true, true, true, true, true, true, true, true, true, true, true, true, true, true, true, true, true, true, true, true, true, true, true, false, false] rfl rfl (by kernel_rfl) (fun _ _ _ h => h) (Or.inl ⟨by rfl, ?_⟩) ?_ ?_
 rotate_left
 ·intro w'
  go_simp
  with_reducible rfl
 rotate_left
 ·simp only [Act.put, List.setIfInBounds_toArray, List.set_cons_zero, List.set_cons_succ, i64_w, i32_w]
  rfl
 refine last_ (i := 25) (N := none) #[true, true, true, true, true, true, true, true, true, true, true, true, true, true, true, true, true, true, true, true, true, true, true, true, true, true, false] rfl rfl (by kernel_rfl) (by decide) (fun K hK => ?_)
 rw [if_pos (by rfl)]
 refine wp_store_row 26 _ _ rfl w.heap.size #[.bool false, .int .i64 0, .int .u64 a0, .int .u64 a1, .int .u64 a2, .int .u64 a3, .int .u64 a4, .int .u64 a5] rfl rfl 26 noSched hrow schedSize rfl (by simp [Value.oneCell']) ?_
 refine hK.out _ _ ?_
 clear hK K
 refine pure_ (i := 26) (N := some 5) (v := ?_) (a' := ?_) #[true, true, true, true, true, true, true, true, true, true, true, true, true, true, true, true, true, true, true, true, true, true, true, true, true, true, true] rfl rfl (by kernel_rfl) (fun _ _ _ h => h) (Or.inl ⟨by rfl, ?_⟩) ?_ ?_
 rotate_left
 ·intro w'
  go_simp
  with_reducible rfl
 rotate_left
 ·simp only [Act.put, List.setIfInBounds_toArray, List.set_cons_zero, List.set_cons_succ, i64_w, i32_w]
  rfl
 refine done_ (by kernel_rfl) ?_
 go_wp2_with fail
 refine bodyPost_ret (v := .tuple #[.agg #[.bool false, .int .i64 0, .int .u64 a0, .int .u64 a1, .int .u64 a2, .int .u64 a3, .int .u64 a4, .int .u64 a5], .bool true]) ?_ rfl ⟨rfl, ?_⟩
 ·exact results_sched (fn := Tryz.f46) (p := 4) (u := 5) rfl _ _ w.heap.size _ rfl rfl (setRow_heap _ _ _ _ _ _ hrow)
 ·exact below_setRow (hB1.drew) (Nat.le_refl _) _
end Go.Proofs.YtmecbmgfacpecaaGreatDoor.Cron
namespace Go.Proofs.YtmecbmgfacpecaaGreatDoor.Cron
open Go Go.RowKit Go.Proofs.YtmecbmgfacpecaaGreatDoor.Text Go.Proofs.YtmecbmgfacpecaaGreatDoorW.PrintWords Go.Proofs.YtmecbmgfacpecaaGreatDoorW.PrintLast Go.Proofs.YtmecbmgfacpecaaGreatDoorW.PrintMore Go.Proofs.YtmecbmgfacpecaaGreatDoor.Pr
set_option linter.unusedVariables false
def Ev {α : Type} (f : Nat → Option α) (r : α) : Prop := ∃ K, ∀ k, K ≤ k → f k = some r
theorem ev_of {α : Type} {f : Nat → Option α} {r : α} {k : Nat} (hm : ∀ k, LeO (f k) (f (k + 1))) (h : f k = some r) : Ev f r := by
 refine ⟨k, fun k' hk => ?_⟩
 obtain ⟨d, rfl⟩ : ∃ d, k' = k + d := ⟨k' - k, by omega⟩
 clear hk
 induction d with
 | zero => exact h
 | succ n ih => exact hm (k + n) r ih
def upN (n : Nat) : Nat := if 97 ≤ n ∧ n ≤ 122 then n - 32 else n
theorem upper_f (n : Nat) (h : n < 256) : spec_cronUpper.f (n : Int) = some ((upN n : Nat) : Int) := by
 unfold spec_cronUpper.f upN
 by_cases h1 : 97 ≤ n
 ·rw [if_pos (by omega)]
  by_cases h2 : n ≤ 122
  ·rw [if_pos (by omega), if_pos ⟨h1, h2⟩]
   congr 1
   omega
  ·rw [if_neg (by omega), if_neg (by omega)]
 ·rw [if_neg (by omega), if_neg (by omega)]
def sameL : List UInt8 → List UInt8 → Bool
 | [], [] => true
 | a :: x, b :: y => (upN a.toNat == upN b.toNat) && sameL x y
 | _, _ => false
theorem same_len : ∀ (a b : List UInt8), sameL a b = true → a.length = b.length
 | [], [], _ => rfl
 | a :: x, b :: y, h => by
  simp only [sameL, Bool.and_eq_true] at h
  simp [same_len x y h.2]
 | [], b :: y, h => by cases h
 | a :: x, [], h => by cases h
theorem same_l0 (a s : ByteArray) (ha : a.size ≤ 4294967296) (hl : a.size = s.size) : ∀ (k i : Nat), a.size - i < k → i ≤ a.size → spec_cronSame.l0 k a s (a.size : Int) (i : Int) = some (sameL (a.data.toList.drop i) (s.data.toList.drop i))
 | 0, i, hk, hi => by omega
 | k + 1, i, hk, hi => by
  have h1 := size_list a
  have h2 := size_list s
  unfold spec_cronSame.l0
  by_cases h : i < a.size
  ·have ha' : i < a.data.toList.length := by omega
   have hs' : i < s.data.toList.length := by omega
   rw [if_pos (by omega), if_pos (by omega), if_pos (by omega), bt_list a i ha', upper_f _ (UInt8.toNat_lt _)]
   simp only [Option.bind_some]
   rw [if_pos (by omega), bt_list s i hs', upper_f _ (UInt8.toNat_lt _)]
   simp only [Option.bind_some]
   rw [List.drop_eq_getElem_cons ha', List.drop_eq_getElem_cons hs']
   simp only [sameL]
   by_cases e : upN (a.data.toList[i]).toNat = upN (s.data.toList[i]).toNat
   ·rw [if_pos (by omega), e]
    have hw : wrap64 ((i : Int) + 1) = ((i + 1 : Nat) : Int) := by
     unfold wrap64
     omega
    rw [hw, same_l0 a s ha hl k (i + 1) (by omega) (by omega)]
    simp
   ·rw [if_neg (by omega)]
    have : (upN (a.data.toList[i]).toNat == upN (s.data.toList[i]).toNat) = false := by simpa using e
    rw [this]
    rfl
  ·rw [if_neg (by omega), List.drop_eq_nil_of_le (by omega), List.drop_eq_nil_of_le (by omega)]
   rfl
theorem same_ev (a s : ByteArray) (ha : a.size ≤ 4294967296) : Ev (fun k => spec_cronSame.f k a s) (sameL a.data.toList s.data.toList) := by
 refine ⟨a.size + 1, fun k hk => ?_⟩
 have h1 := size_list a
 have h2 := size_list s
 simp only [spec_cronSame.f]
 by_cases hl : a.size = s.size
 ·rw [if_pos (by omega)]
  have := same_l0 a s ha hl k 0 (by omega) (by omega)
  simpa using this
 ·rw [if_neg (by omega)]
  cases h : sameL a.data.toList s.data.toList with
  | true => exact absurd (same_len _ _ h) (by omega)
  | false => rfl
theorem foreign_l0 (s : ByteArray) (hs : s.size ≤ 4294967296) : ∀ (k i : Nat), s.size - i < k → i ≤ s.size → spec_cronForeign.l0 k s (s.size : Int) (i : Int) = some ((s.data.toList.drop i).any fun c => decide (128 ≤ c.toNat))
 | 0, i, hk, hi => by omega
 | k + 1, i, hk, hi => by
  have h1 := size_list s
  unfold spec_cronForeign.l0
  by_cases h : i < s.size
  ·have hs' : i < s.data.toList.length := by omega
   rw [if_pos (by omega), if_pos (by omega), if_pos (by omega), bt_list s i hs', List.drop_eq_getElem_cons hs', List.any_cons]
   by_cases e : 128 ≤ (s.data.toList[i]).toNat
   ·rw [if_pos (by omega), decide_eq_true e]
    rfl
   ·rw [if_neg (by omega), decide_eq_false e, Bool.false_or]
    have hw : wrap64 ((i : Int) + 1) = ((i + 1 : Nat) : Int) := by
     unfold wrap64
     omega
    rw [hw, foreign_l0 s hs k (i + 1) (by omega) (by omega)]
  ·rw [if_neg (by omega), List.drop_eq_nil_of_le (by omega)]
   rfl
theorem foreign_ev (s : ByteArray) (hs : s.size ≤ 4294967296) : Ev (fun k => spec_cronForeign.f k s) (s.data.toList.any fun c => decide (128 ≤ c.toNat)) := by
 refine ⟨s.size + 1, fun k hk => ?_⟩
 simp only [spec_cronForeign.f]
 have := foreign_l0 s hs k 0 (by omega) (by omega)
 simpa using this
def low8 (c : UInt8) : UInt8 := if 65 ≤ c.toNat ∧ c.toNat ≤ 90 then UInt8.ofNat (c.toNat + 32) else c
theorem lowRune_ascii (c : UInt8) (h : c.toNat < 128) : lowRune c.toNat = [low8 c] := by
 unfold lowRune low8
 by_cases h1 : 65 ≤ c.toNat ∧ c.toNat ≤ 90
 ·rw [if_pos h1, if_pos h1]
 ·rw [if_neg h1, if_neg h1, if_neg (by omega), if_neg (by omega), Extern.FmtText.enc1 _ h]
  simp
theorem lowGo_ascii (s : ByteArray) (ha : ∀ c ∈ s.data.toList, c.toNat < 128) : ∀ (f pos : Nat), s.size ≤ f + pos → lowGo s f pos = (s.data.toList.drop pos).map low8
 | 0, pos, h => by
  have := size_list s
  rw [List.drop_eq_nil_of_le (by omega)]
  rfl
 | f + 1, pos, h => by
  have hz := size_list s
  unfold lowGo
  by_cases hlt : pos < s.size
  ·have hl : pos < s.data.toList.length := by omega
   have hc := ha _ (List.getElem_mem hl)
   rw [if_pos hlt, (dec_at _ hc s pos hlt).1 (List.getElem?_eq_getElem hl), List.drop_eq_getElem_cons hl, List.map_cons]
   simp only
   rw [lowRune_ascii _ hc, lowGo_ascii s ha f (pos + 1) (by omega)]
   rfl
  ·rw [if_neg hlt, List.drop_eq_nil_of_le (by omega)]
   rfl
theorem low_ascii (s : ByteArray) (ha : ∀ c ∈ s.data.toList, c.toNat < 128) : lowB s = ba (s.data.toList.map low8) := by
 unfold lowB lowS
 rw [lowGo_ascii s ha s.size 0 (by omega)]
 rfl
theorem up_iff {c d : Nat} (h : 65 ≤ c ∧ c ≤ 90) (hd : d < 256) : upN c = upN d ↔ d = c ∨ d = c + 32 := by
 unfold upN
 rw [if_neg (by omega)]
 by_cases h2 : 97 ≤ d ∧ d ≤ 122
 ·rw [if_pos h2]; omega
 ·rw [if_neg h2]; omega
theorem same_low : ∀ (N l : List UInt8), (∀ c ∈ N, 65 ≤ c.toNat ∧ c.toNat ≤ 90) → (sameL N l = true ↔ ((∀ c ∈ l, c.toNat < 128) ∧ l.map low8 = N.map low8))
 | [], [], _ => by simp [sameL]
 | [], b :: y, _ => by simp [sameL]
 | a :: x, [], _ => by simp [sameL]
 | a :: x, b :: y, h => by
  have ha := h a (by simp)
  have ih := same_low x y (fun c hc => h c (by simp [hc]))
  have hb := UInt8.toNat_lt b
  simp only [sameL, Bool.and_eq_true, beq_iff_eq, List.map_cons, List.cons.injEq, List.forall_mem_cons, ih, up_iff ha hb]
  have key : (b.toNat = a.toNat ∨ b.toNat = a.toNat + 32) ↔ (b.toNat < 128 ∧ low8 b = low8 a) := by
   have e1 : low8 a = UInt8.ofNat (a.toNat + 32) := by unfold low8; rw [if_pos ha]
   have t1 : (UInt8.ofNat (a.toNat + 32)).toNat = a.toNat + 32 := by rw [UInt8.toNat_ofNat']; omega
   constructor
   ·rintro (e | e)
    ·exact ⟨by omega, by rw [u8_eq e]⟩
    ·refine ⟨by omega, ?_⟩
     have : low8 b = b := by unfold low8; rw [if_neg (by omega)]
     rw [this, e1]
     exact u8_eq (by rw [t1, e])
   ·rintro ⟨e1', e2⟩
    rw [e1] at e2
    have e3 := congrArg UInt8.toNat e2
    rw [t1] at e3
    unfold low8 at e3
    split at e3
    ·rename_i hbb
     rw [UInt8.toNat_ofNat'] at e3
     omega
    ·exact .inr e3
  rw [key]
  constructor
  ·rintro ⟨⟨p, q⟩, r, u⟩; exact ⟨⟨p, r⟩, q, u⟩
  ·rintro ⟨⟨p, r⟩, q, u⟩; exact ⟨⟨p, q⟩, r, u⟩
def ReadsSmall (val : List UInt8 → Option Nat) (kind : Int) : Prop :=
 ∀ s : ByteArray, s.size ≤ 4294967296 → ∃ k n v, spec_CronValue.f k kind s = some (n, v) ∧ ValSays (val s.data.toList) n v ∧ (s.size ≤ 12 → n < 1000000000000)
theorem fold_small : ∀ (l : List UInt8) (n m : Nat), digitsFold n l = some m → m < (n + 1) * 10 ^ l.length
 | [], n, m, h => by
  injection h with h
  simp
  omega
 | c :: r, n, m, h => by
  unfold digitsFold at h
  split at h
  ·rename_i hc
   have := fold_small r _ m h
   have h2 : min (10 * n + (c.toNat - 48)) 1099511627776 + 1 ≤ (n + 1) * 10 := by omega
   have h3 := Nat.mul_le_mul_right (10 ^ r.length) h2
   rw [List.length_cons, Nat.pow_succ, Nat.mul_comm (10 ^ r.length) 10, ← Nat.mul_assoc]
   omega
  ·cases h
theorem pair_small (r : List UInt8) (v : Int) (h : r.length ≤ 12) : (pairOf r v).1 < 1000000000000 := by
 unfold pairOf
 split
 ·decide
 ·split
  ·rename_i m hm
   have h1 := fold_small _ _ _ hm
   have h2 : 10 ^ r.length ≤ 10 ^ 12 := Nat.pow_le_pow_right (by decide) h
   simp only
   omega
  ·decide
theorem j1_small (s : ByteArray) (hs : s.size ≤ 12) (v : Int) (k : Nat) (hk : s.size + 2 < k) {n w : Int} (h : spec_CronNumber.j1 k s v = some (n, w)) : n < 1000000000000 := by
 rw [number_j1 s (by omega) v k hk] at h
 injection h with h
 have := pair_small s.data.toList v (by rw [← size_list]; exact hs)
 rw [h] at this
 exact this
theorem j0_small (s : ByteArray) (hs : s.size ≤ 12) (v : Int) (b : Bool) (k : Nat) (hk : s.size + 3 < k) {n w : Int} (h : spec_CronNumber.j0 k s v b = some (n, w)) : n < 1000000000000 := by
 obtain ⟨k, rfl⟩ : ∃ m, k = m + 1 := ⟨k - 1, by omega⟩
 simp only [spec_CronNumber.j0] at h
 have hx : (s.extract 1 s.size).size ≤ s.size := by rw [ByteArray.size_extract]; omega
 split at h
 ·split at h
  ·exact j1_small _ (by omega) 2 k (by omega) h
  ·cases h
 ·exact j1_small s hs v k (by omega) h
theorem number_small (s : ByteArray) (hs : s.size ≤ 12) {k : Nat} {n v : Int} (h : spec_CronNumber.f k s = some (n, v)) : n < 1000000000000 := by
 obtain ⟨K, hK⟩ := ev_of (spec_CronNumber.mono s) h
 have e := hK (K + s.size + 5) (by omega)
 simp only at e
 unfold spec_CronNumber.f at e
 repeat' split at e
 all_goals first
  | exact j0_small s hs _ _ _ (by omega) e
  | (obtain ⟨b, _, hb⟩ := Option.bind_eq_some_iff.1 e; exact j0_small s hs _ _ _ (by omega) hb)
  | cases e
def monthsU : List (ByteArray × Int) := [(⟨#[74, 65, 78]⟩, 1), (⟨#[70, 69, 66]⟩, 2), (⟨#[77, 65, 82]⟩, 3), (⟨#[65, 80, 82]⟩, 4), (⟨#[77, 65, 89]⟩, 5), (⟨#[74, 85, 78]⟩, 6), (⟨#[74, 85, 76]⟩, 7), (⟨#[65, 85, 71]⟩, 8), (⟨#[83, 69, 80]⟩, 9), (⟨#[79, 67, 84]⟩, 10), (⟨#[78, 79, 86]⟩, 11), (⟨#[68, 69, 67]⟩, 12)]
def dowU : List (ByteArray × Int) := [(⟨#[83, 85, 78]⟩, 0), (⟨#[77, 79, 78]⟩, 1), (⟨#[84, 85, 69]⟩, 2), (⟨#[87, 69, 68]⟩, 3), (⟨#[84, 72, 85]⟩, 4), (⟨#[70, 82, 73]⟩, 5), (⟨#[83, 65, 84]⟩, 6)]
def firstN (l : List UInt8) : List (ByteArray × Int) → Option Int
 | [] => none
 | (k, v) :: t => if sameL k.data.toList l = true then some v else firstN l t
def Caps (U : List (ByteArray × Int)) : Prop := ∀ p ∈ U, ∀ c ∈ p.1.data.toList, 65 ≤ c.toNat ∧ c.toNat ≤ 90
def lowP (p : ByteArray × Int) : ByteArray × Int := (ba (p.1.data.toList.map low8), p.2)
theorem first_foreign (l : List UInt8) (hl : ¬ ∀ c ∈ l, c.toNat < 128) : ∀ U, Caps U → firstN l U = none
 | [], _ => rfl
 | (k, v) :: t, h => by
  unfold firstN
  rw [if_neg, first_foreign l hl t (fun p hp => h p (by simp [hp]))]
  intro e
  exact hl ((same_low _ _ (h (k, v) (by simp))).1 e).1
theorem first_look (l : List UInt8) (hl : ∀ c ∈ l, c.toNat < 128) : ∀ U, Caps U → lookL (ba (l.map low8)) (U.map lowP) = firstN l U
 | [], _ => rfl
 | (k, v) :: t, h => by
  have ih := first_look l hl t (fun p hp => h p (by simp [hp]))
  have hs := same_low k.data.toList l (h (k, v) (by simp))
  simp only [List.map_cons, lowP, lookL, firstN]
  by_cases e : sameL k.data.toList l = true
  ·rw [if_pos e, if_pos (by rw [(hs.1 e).2])]
  ·rw [if_neg e, if_neg, ← ih]
   ·intro h2
    exact e (hs.2 ⟨hl, ba_inj h2⟩)
theorem value_l0 (kind hi : Int) (s : ByteArray) (hhigh : spec_CronHigh.f kind = some hi) (rest : Int × Int) (hrest : Ev (fun k => spec_CronValue.j2 k s true) rest) (hh : hi ≤ 100) :
  ∀ (U : List (ByteArray × Int)) (i : Int), (∀ (j : Nat) p, U[j]? = some p → p.2 = i + j ∧ p.1.size ≤ 4294967296 ∧ Ev (fun k => spec_CronName.f k kind (i + j)) p.1) → i + U.length = hi + 1 → 0 ≤ i →
   Ev (fun k => spec_CronValue.l0 k kind s true i) (match firstN s.data.toList U with | some v => (v, 1) | none => rest)
 | [], i, _, he, h0 => by
  obtain ⟨K, hK⟩ := hrest
  refine ⟨K + 1, fun k hk => ?_⟩
  obtain ⟨k, rfl⟩ : ∃ m, k = m + 1 := ⟨k - 1, by omega⟩
  have h1 := hK k (by omega)
  simp only [List.length_nil] at he
  simp only [spec_CronValue.l0, hhigh, Option.bind_some, firstN]
  rw [if_neg (by omega)]
  exact h1
 | (nm, v) :: t, i, hU, he, h0 => by
  obtain ⟨hv, hz, K1, hK1⟩ := hU 0 (nm, v) rfl
  obtain ⟨K2, hK2⟩ := same_ev nm s hz
  simp only [List.length_cons] at he
  obtain ⟨K3, hK3⟩ := value_l0 kind hi s hhigh rest hrest hh t (i + 1) (fun j p hp => by
   obtain ⟨a, b, c⟩ := hU (j + 1) p (by simpa using hp)
   refine ⟨by omega, b, ?_⟩
   rw [show i + 1 + (j : Int) = i + ((j + 1 : Nat) : Int) by omega]
   exact c) (by omega) (by omega)
  refine ⟨K1 + K2 + K3 + 1, fun k hk => ?_⟩
  obtain ⟨k, rfl⟩ : ∃ m, k = m + 1 := ⟨k - 1, by omega⟩
  have e1 := hK1 k (by omega)
  have e2 := hK2 k (by omega)
  have e3 := hK3 k (by omega)
  simp only [Int.natCast_zero, Int.add_zero] at e1 hv
  simp only at e2 e3
  have hw : wrap64 (i + 1) = i + 1 := by unfold wrap64; omega
  simp only [spec_CronValue.l0, hhigh, Option.bind_some]
  rw [if_pos (by omega), e1]
  simp only [Option.bind_some]
  rw [e2]
  simp only [Option.bind_some, firstN, hw]
  by_cases e : sameL nm.data.toList s.data.toList = true
  ·rw [if_pos e, if_pos e, hv]
  ·rw [if_neg e, if_neg e]
   exact e3
theorem months_caps : Caps monthsU := by
 intro p hp c hc
 simp only [monthsU, List.mem_cons, List.not_mem_nil, or_false] at hp
 rcases hp with rfl | rfl | rfl | rfl | rfl | rfl | rfl | rfl | rfl | rfl | rfl | rfl <;> (simp only [List.mem_cons, List.not_mem_nil, or_false] at hc; rcases hc with rfl | rfl | rfl <;> decide)
theorem months_lowP : monthsL = monthsU.map lowP := by decide
theorem months_name : ∀ (j : Nat) p, monthsU[j]? = some p → p.2 = (1 : Int) + j ∧ p.1.size ≤ 4294967296 ∧ Ev (fun k => spec_CronName.f k 4 (1 + j)) p.1
 | 0, p, h => by
  cases h
  exact ⟨by decide, by decide, ev_of (k := 2) (spec_CronName.mono _ _) (by simp [spec_CronName.f, spec_CronName.j0, spec_CronName.j1, toList_data, spec_CronLow.f, spec_CronHigh.f, wrap64]; first | done | rfl | decide)⟩
 | 1, p, h => by
  cases h
  exact ⟨by decide, by decide, ev_of (k := 2) (spec_CronName.mono _ _) (by simp [spec_CronName.f, spec_CronName.j0, spec_CronName.j1, toList_data, spec_CronLow.f, spec_CronHigh.f, wrap64]; first | done | rfl | decide)⟩
 | 2, p, h => by
  cases h
  exact ⟨by decide, by decide, ev_of (k := 2) (spec_CronName.mono _ _) (by simp [spec_CronName.f, spec_CronName.j0, spec_CronName.j1, toList_data, spec_CronLow.f, spec_CronHigh.f, wrap64]; first | done | rfl | decide)⟩
 | 3, p, h => by
  cases h
  exact ⟨by decide, by decide, ev_of (k := 2) (spec_CronName.mono _ _) (by simp [spec_CronName.f, spec_CronName.j0, spec_CronName.j1, toList_data, spec_CronLow.f, spec_CronHigh.f, wrap64]; first | done | rfl | decide)⟩
 | 4, p, h => by
  cases h
  exact ⟨by decide, by decide, ev_of (k := 2) (spec_CronName.mono _ _) (by simp [spec_CronName.f, spec_CronName.j0, spec_CronName.j1, toList_data, spec_CronLow.f, spec_CronHigh.f, wrap64]; first | done | rfl | decide)⟩
 | 5, p, h => by
  cases h
  exact ⟨by decide, by decide, ev_of (k := 2) (spec_CronName.mono _ _) (by simp [spec_CronName.f, spec_CronName.j0, spec_CronName.j1, toList_data, spec_CronLow.f, spec_CronHigh.f, wrap64]; first | done | rfl | decide)⟩
 | 6, p, h => by
  cases h
  exact ⟨by decide, by decide, ev_of (k := 2) (spec_CronName.mono _ _) (by simp [spec_CronName.f, spec_CronName.j0, spec_CronName.j1, toList_data, spec_CronLow.f, spec_CronHigh.f, wrap64]; first | done | rfl | decide)⟩
 | 7, p, h => by
  cases h
  exact ⟨by decide, by decide, ev_of (k := 2) (spec_CronName.mono _ _) (by simp [spec_CronName.f, spec_CronName.j0, spec_CronName.j1, toList_data, spec_CronLow.f, spec_CronHigh.f, wrap64]; first | done | rfl | decide)⟩
 | 8, p, h => by
  cases h
  exact ⟨by decide, by decide, ev_of (k := 2) (spec_CronName.mono _ _) (by simp [spec_CronName.f, spec_CronName.j0, spec_CronName.j1, toList_data, spec_CronLow.f, spec_CronHigh.f, wrap64]; first | done | rfl | decide)⟩
 | 9, p, h => by
  cases h
  exact ⟨by decide, by decide, ev_of (k := 2) (spec_CronName.mono _ _) (by simp [spec_CronName.f, spec_CronName.j0, spec_CronName.j1, toList_data, spec_CronLow.f, spec_CronHigh.f, wrap64]; first | done | rfl | decide)⟩
 | 10, p, h => by
  cases h
  exact ⟨by decide, by decide, ev_of (k := 2) (spec_CronName.mono _ _) (by simp [spec_CronName.f, spec_CronName.j0, spec_CronName.j1, toList_data, spec_CronLow.f, spec_CronHigh.f, wrap64]; first | done | rfl | decide)⟩
 | 11, p, h => by
  cases h
  exact ⟨by decide, by decide, ev_of (k := 2) (spec_CronName.mono _ _) (by simp [spec_CronName.f, spec_CronName.j0, spec_CronName.j1, toList_data, spec_CronLow.f, spec_CronHigh.f, wrap64]; first | done | rfl | decide)⟩
 | j + 12, p, h => by cases h
theorem value_months : ReadsSmall (valN monthsL) 4 := by
 intro s hs
 have hlow : spec_CronLow.f 4 = some 1 := rfl
 have hhigh : spec_CronHigh.f 4 = some 12 := rfl
 obtain ⟨kn, n, v, hk, hv⟩ := number_is s hs
 obtain ⟨K1, hN⟩ := ev_of (spec_CronNumber.mono s) hk
 obtain ⟨K2, hF⟩ := foreign_ev s hs
 by_cases ha : ∀ c ∈ s.data.toList, c.toNat < 128
 ·have hfo : (s.data.toList.any fun c => decide (128 ≤ c.toNat)) = false := by
   rw [List.any_eq_false]
   intro c hc
   have := ha c hc
   simp; omega
  rw [hfo] at hF
  have hrest : Ev (fun k => spec_CronValue.j2 k s true) (n, v) := ⟨K1 + K2 + 1, fun k hk => by
   obtain ⟨k, rfl⟩ : ∃ m, k = m + 1 := ⟨k - 1, by omega⟩
   have e1 := hN k (by omega)
   have e2 := hF k (by omega)
   simp only at e1 e2
   simp only [spec_CronValue.j2, if_true, e2, Option.bind_some, e1, Bool.false_eq_true, if_false]⟩
  obtain ⟨K, hK⟩ := value_l0 4 12 s hhigh (n, v) hrest (by omega) monthsU 1 months_name (by decide) (by omega)
  have e := hK K (Nat.le_refl _)
  have hl : lookL (lowB s) monthsL = firstN s.data.toList monthsU := by rw [low_ascii s ha, months_lowP]; exact first_look _ ha _ months_caps
  have hval : ∀ r, spec_CronValue.l0 K 4 s true 1 = some r → spec_CronValue.f (K + 1) 4 s = some r := by
   intro r hr
   unfold spec_CronValue.f
   simp [spec_CronValue.j0, hlow, hr]
  unfold valN
  rw [ba_of, hl]
  cases hf : firstN s.data.toList monthsU with
  | some x =>
   rw [hf] at e
   have hb := months_small _ (look_mem _ _ _ (hl.trans hf))
   exact ⟨K + 1, x, 1, hval _ e, ⟨hb.1, by omega, by omega, fun _ => .inl ⟨x.toNat, rfl, by omega⟩, fun h => by omega⟩, fun _ => by have := hb.2; simp only at this; omega⟩
  | none =>
   rw [hf] at e
   exact ⟨K + 1, n, v, hval _ e, hv.says, fun h => number_small s h hk⟩
 ·have hfo : (s.data.toList.any fun c => decide (128 ≤ c.toNat)) = true := by
   rw [List.any_eq_true]
   apply Classical.byContradiction
   intro h
   exact ha fun c hc => Classical.byContradiction fun h2 => h ⟨c, hc, by simp; omega⟩
  rw [hfo] at hF
  have hrest : Ev (fun k => spec_CronValue.j2 k s true) (0, 2) := ⟨K2 + 1, fun k hk => by
   obtain ⟨k, rfl⟩ : ∃ m, k = m + 1 := ⟨k - 1, by omega⟩
   have e2 := hF k (by omega)
   simp only at e2
   simp only [spec_CronValue.j2, if_true, e2, Option.bind_some]⟩
  obtain ⟨K, hK⟩ := value_l0 4 12 s hhigh (0, 2) hrest (by omega) monthsU 1 months_name (by decide) (by omega)
  have e := hK K (Nat.le_refl _)
  rw [first_foreign _ ha _ months_caps] at e
  refine ⟨K + 1, 0, 2, ?_, ⟨by omega, by omega, by omega, fun h => by omega, fun h => by omega⟩, fun _ => by omega⟩
  unfold spec_CronValue.f
  simp only at e
  simp [spec_CronValue.j0, hlow, e]
theorem dow_caps : Caps dowU := by
 intro p hp c hc
 simp only [dowU, List.mem_cons, List.not_mem_nil, or_false] at hp
 rcases hp with rfl | rfl | rfl | rfl | rfl | rfl | rfl <;> (simp only [List.mem_cons, List.not_mem_nil, or_false] at hc; rcases hc with rfl | rfl | rfl <;> decide)
theorem dow_lowP : dowL = dowU.map lowP := by decide
theorem dow_name : ∀ (j : Nat) p, dowU[j]? = some p → p.2 = (0 : Int) + j ∧ p.1.size ≤ 4294967296 ∧ Ev (fun k => spec_CronName.f k 5 (0 + j)) p.1
 | 0, p, h => by
  cases h
  exact ⟨by decide, by decide, ev_of (k := 2) (spec_CronName.mono _ _) (by simp [spec_CronName.f, spec_CronName.j0, spec_CronName.j1, toList_data, spec_CronLow.f, spec_CronHigh.f, wrap64]; first | done | rfl | decide)⟩
 | 1, p, h => by
  cases h
  exact ⟨by decide, by decide, ev_of (k := 2) (spec_CronName.mono _ _) (by simp [spec_CronName.f, spec_CronName.j0, spec_CronName.j1, toList_data, spec_CronLow.f, spec_CronHigh.f, wrap64]; first | done | rfl | decide)⟩
 | 2, p, h => by
  cases h
  exact ⟨by decide, by decide, ev_of (k := 2) (spec_CronName.mono _ _) (by simp [spec_CronName.f, spec_CronName.j0, spec_CronName.j1, toList_data, spec_CronLow.f, spec_CronHigh.f, wrap64]; first | done | rfl | decide)⟩
 | 3, p, h => by
  cases h
  exact ⟨by decide, by decide, ev_of (k := 2) (spec_CronName.mono _ _) (by simp [spec_CronName.f, spec_CronName.j0, spec_CronName.j1, toList_data, spec_CronLow.f, spec_CronHigh.f, wrap64]; first | done | rfl | decide)⟩
 | 4, p, h => by
  cases h
  exact ⟨by decide, by decide, ev_of (k := 2) (spec_CronName.mono _ _) (by simp [spec_CronName.f, spec_CronName.j0, spec_CronName.j1, toList_data, spec_CronLow.f, spec_CronHigh.f, wrap64]; first | done | rfl | decide)⟩
 | 5, p, h => by
  cases h
  exact ⟨by decide, by decide, ev_of (k := 2) (spec_CronName.mono _ _) (by simp [spec_CronName.f, spec_CronName.j0, spec_CronName.j1, toList_data, spec_CronLow.f, spec_CronHigh.f, wrap64]; first | done | rfl | decide)⟩
 | 6, p, h => by
  cases h
  exact ⟨by decide, by decide, ev_of (k := 2) (spec_CronName.mono _ _) (by simp [spec_CronName.f, spec_CronName.j0, spec_CronName.j1, toList_data, spec_CronLow.f, spec_CronHigh.f, wrap64]; first | done | rfl | decide)⟩
 | j + 7, p, h => by cases h
theorem value_dow : ReadsSmall (valN dowL) 5 := by
 intro s hs
 have hlow : spec_CronLow.f 5 = some 0 := rfl
 have hhigh : spec_CronHigh.f 5 = some 6 := rfl
 obtain ⟨kn, n, v, hk, hv⟩ := number_is s hs
 obtain ⟨K1, hN⟩ := ev_of (spec_CronNumber.mono s) hk
 obtain ⟨K2, hF⟩ := foreign_ev s hs
 by_cases ha : ∀ c ∈ s.data.toList, c.toNat < 128
 ·have hfo : (s.data.toList.any fun c => decide (128 ≤ c.toNat)) = false := by
   rw [List.any_eq_false]
   intro c hc
   have := ha c hc
   simp; omega
  rw [hfo] at hF
  have hrest : Ev (fun k => spec_CronValue.j2 k s true) (n, v) := ⟨K1 + K2 + 1, fun k hk => by
   obtain ⟨k, rfl⟩ : ∃ m, k = m + 1 := ⟨k - 1, by omega⟩
   have e1 := hN k (by omega)
   have e2 := hF k (by omega)
   simp only at e1 e2
   simp only [spec_CronValue.j2, if_true, e2, Option.bind_some, e1, Bool.false_eq_true, if_false]⟩
  obtain ⟨K, hK⟩ := value_l0 5 6 s hhigh (n, v) hrest (by omega) dowU 0 dow_name (by decide) (by omega)
  have e := hK K (Nat.le_refl _)
  have hl : lookL (lowB s) dowL = firstN s.data.toList dowU := by rw [low_ascii s ha, dow_lowP]; exact first_look _ ha _ dow_caps
  have hval : ∀ r, spec_CronValue.l0 K 5 s true 0 = some r → spec_CronValue.f (K + 1) 5 s = some r := by
   intro r hr
   unfold spec_CronValue.f
   simp [spec_CronValue.j0, hlow, hr]
  unfold valN
  rw [ba_of, hl]
  cases hf : firstN s.data.toList dowU with
  | some x =>
   rw [hf] at e
   have hb := dow_small _ (look_mem _ _ _ (hl.trans hf))
   exact ⟨K + 1, x, 1, hval _ e, ⟨hb.1, by omega, by omega, fun _ => .inl ⟨x.toNat, rfl, by omega⟩, fun h => by omega⟩, fun _ => by have := hb.2; simp only at this; omega⟩
  | none =>
   rw [hf] at e
   exact ⟨K + 1, n, v, hval _ e, hv.says, fun h => number_small s h hk⟩
 ·have hfo : (s.data.toList.any fun c => decide (128 ≤ c.toNat)) = true := by
   rw [List.any_eq_true]
   apply Classical.byContradiction
   intro h
   exact ha fun c hc => Classical.byContradiction fun h2 => h ⟨c, hc, by simp; omega⟩
  rw [hfo] at hF
  have hrest : Ev (fun k => spec_CronValue.j2 k s true) (0, 2) := ⟨K2 + 1, fun k hk => by
   obtain ⟨k, rfl⟩ : ∃ m, k = m + 1 := ⟨k - 1, by omega⟩
   have e2 := hF k (by omega)
   simp only at e2
   simp only [spec_CronValue.j2, if_true, e2, Option.bind_some]⟩
  obtain ⟨K, hK⟩ := value_l0 5 6 s hhigh (0, 2) hrest (by omega) dowU 0 dow_name (by decide) (by omega)
  have e := hK K (Nat.le_refl _)
  rw [first_foreign _ ha _ dow_caps] at e
  refine ⟨K + 1, 0, 2, ?_, ⟨by omega, by omega, by omega, fun h => by omega, fun h => by omega⟩, fun _ => by omega⟩
  unfold spec_CronValue.f
  simp only at e
  simp [spec_CronValue.j0, hlow, e]
theorem value_plain_small {kind : Int} (h4 : kind ≠ 4) (h5 : kind ≠ 5) : ReadsSmall mp kind := by
 intro s hs
 obtain ⟨k, n, v, hk, hv⟩ := number_is s hs
 refine ⟨k + 2, n, v, ?_, hv.says, fun h => number_small s h hk⟩
 unfold spec_CronValue.f
 rw [if_neg h4]
 simp only [spec_CronValue.j0, spec_CronValue.j2]
 have : (kind == 5) = false := by simpa using h5
 rw [this]
 simp only [Bool.false_eq_true, if_false]
 rw [hk]
 rfl
theorem value_small (k : Nat) (hk : k < 6) : ReadsSmall (valK k) k := by
 unfold valK
 by_cases h4 : k = 4
 ·subst h4
  exact value_months
 ·rw [if_neg h4]
  by_cases h5 : k = 5
  ·subst h5
   exact value_dow
  ·rw [if_neg h5]
   exact value_plain_small (by omega) (by omega)
theorem value_reads (k : Nat) (hk : k < 6) : ReadsLike (valK k) k := fun s hs => by
 obtain ⟨K, n, v, h, hv, _⟩ := value_small k hk s hs
 exact ⟨K, n, v, h, hv⟩
end Go.Proofs.YtmecbmgfacpecaaGreatDoor.Cron
