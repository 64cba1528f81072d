/- Lemmas and walks on the way to the law, merged by wip/tools/pack.py: Parse, Takes, FillS. Conditions: none. -/
import Derived.Test.YtikgnpachlgakaaGreatDoorGrG
import Derived.Test.YtikgnpachlgakaaGreatDoorGrI
import Derived.Test.YtikgnpachlgakaaGreatDoorShelf
import Derived.Deep.QuietTactic
import Derived.BigQuiet
import Derived.Deep.DeepCutAuto
import Derived.Deep.DeepMust
import Derived.Outline
import Derived.Lib.Hide
namespace Go.Proofs.YtikgnpachlgakaaGreatDoor.Cron
open Go Go.RowKit Go.Proofs.YtikgnpachlgakaaGreatDoor.Text Go.Proofs.YtikgnpachlgakaaGreatDoor.Bits Go.Proofs.YtikgnpachlgakaaGreatDoorW.PrintWords Go.Proofs.YtikgnpachlgakaaGreatDoorW.PrintLast Go.Proofs.YtikgnpachlgakaaGreatDoorW.PrintMore
set_option linter.unusedVariables false
set_option linter.unusedSimpArgs false

section
variable {P : Program} {ops : Array Oper} {Q : Exit → Act → World → Prop}
/-- A call of a closure that a slot holds, by its contract. -/
theorem goesV_ {oi : Oper} {N : Option Tmp} {a : Act} {w : World} {K : Act → World → Prop} {f : FuncId} {fn : Func} {x : Operand} {xs : Array Operand} {ts : Array TypeId} (hf : P.funcs[f]? = some fn) (hname : (fn.name == "runtime.NumGoroutine") = false) (hb : fn.body.isSome = true) (args cap all : Array Value) (hall : args ++ cap = all)
    (hx : a.eval x = .func (.func f) #[] cap)
    (hw : Region.wanted oi (yielded ops a.tmps) = true) (hN : oi.dst = N) (hop : oi.op = .call { callee := .value x, args := xs, argTypes := ts }) (hargs : xs.map a.eval = args)
    (h : Calls P f all w fun e w' => ∃ v, e = .returned v ∧ K (a.put N v) w') : if Region.wanted oi (yielded ops a.tmps) = true then Oper.wp P oi a w K Q else K (a.put N undef) w := by
  subst hall
  refine call_ f (args ++ cap) hw hN ?_ h
  have he := enters_ hf hname hb (args ++ cap) w
  unfold execOp
  simp [hop, resolve, Deferred.ofValue, invoke, hx, hargs, he]
end

/-- what err holds: nothing, or an error -/
def ErrSt (v : Value) (ok : Bool) : Prop := if ok = true then v = .nilIface else ∃ t x, v = .iface t x
theorem errSt_ok {v : Value} {ok : Bool} (h : ErrSt v ok) (e : ok = true) : v = .nilIface := by unfold ErrSt at h; rw [if_pos e] at h; exact h
theorem errSt_bad {v : Value} {ok : Bool} (h : ErrSt v ok) (e : ok = false) : ∃ t x, v = .iface t x := by unfold ErrSt at h; rw [if_neg (by rw [e]; decide)] at h; exact h

/-- what the closure answers, whatever err holds -/
def ClosureAns (w : World) (g : Nat) (ok : Bool) (r : Option Nat) (e : Ending) (w' : World) : Prop :=
  ∃ (n : Int) (v : Value), e = .returned (.int .u64 n) ∧ ErrAt w w' g v ∧ ErrSt v (ok && r.isSome) ∧ (ok = true → ∀ b, r = some b → n = b)

theorem closureErr_any (s : ByteArray) (b : Value) (lo hi : Nat) (m : Option Nat) (g : Nat) (t : TypeId) (x : Value) (w : World) (hg : g < w.heap.size) (hc : w.cell? ⟨g, 0, none⟩ = some (.iface t x)) :
    Calls Tryz.prog 34 #[.string s, .agg #[.int .u64 lo, .int .u64 hi, .map m], .pointer (some ⟨g, 0, none⟩)] w fun e w' => e = .returned (.int .u64 0) ∧ Below w.heap.size w w' := by
  go_enter Tryz.func34, Tryz.ntmps34
  go_wp2_with fail
  go_ret
  exact ⟨rfl, (Below.refl _ _).alloc (Nat.le_refl _) _⟩

theorem below_same {w w' : World} {g : Nat} {v : Value} (hb : Below w.heap.size w w') (hg : g < w.heap.size) (hc : w.cell? ⟨g, 0, none⟩ = some v) (hf : w.frozen? ⟨g, 0, none⟩ = false) : w'.cell? ⟨g, 0, none⟩ = some v := (hb.cell (p := ⟨g, 0, none⟩) hg).trans hc

/-- what the closure leaves: err's cell, and nothing else of what was there -/
def ErrLeft (w w' : World) (g : Nat) (v : Value) : Prop := w'.cell? ⟨g, 0, none⟩ = some v ∧ w'.frozen? ⟨g, 0, none⟩ = false ∧ w.heap.size ≤ w'.heap.size ∧ (∀ b, b < w.heap.size → b ≠ g → w'.heap[b]? = w.heap[b]?) ∧ Below g w w'

theorem errLeft_of {w w1 : World} {g : Nat} (v v0 : Value) (hb : Below w.heap.size w w1) (hg : g < w.heap.size) (hc : w.cell? ⟨g, 0, none⟩ = some v0) (hf : w.frozen? ⟨g, 0, none⟩ = false) : ErrLeft w (w1.setCell ⟨g, 0, none⟩ v) g v := by
  have hc1 : w1.cell? ⟨g, 0, none⟩ = some v0 := (hb.cell (p := ⟨g, 0, none⟩) hg).trans hc
  have hf1 : w1.frozen? ⟨g, 0, none⟩ = false := (hb.frozen (p := ⟨g, 0, none⟩) hg).trans hf
  refine ⟨by simp [go_sem, hc1], by simp [go_sem, hf1], by simpa using hb.size, fun b h1 h2 => ?_, (hb.mono (Nat.le_of_lt hg)).setCell (Nat.le_refl _) _⟩
  rw [heap_setCell_other w1 ⟨g, 0, none⟩ b v h2]
  exact hb.block b h1

theorem errLeft_same {w w1 : World} {g : Nat} (v0 : Value) (hb : Below w.heap.size w w1) (hg : g < w.heap.size) (hc : w.cell? ⟨g, 0, none⟩ = some v0) (hf : w.frozen? ⟨g, 0, none⟩ = false) : ErrLeft w w1 g v0 :=
  ⟨(hb.cell (p := ⟨g, 0, none⟩) hg).trans hc, (hb.frozen (p := ⟨g, 0, none⟩) hg).trans hf, hb.size, fun b h1 _ => hb.block b h1, hb.mono (Nat.le_of_lt hg)⟩

def ClosureA (w : World) (g : Nat) (ok : Bool) (r : Option Nat) (e : Ending) (w' : World) : Prop :=
  ∃ (n : Int) (v : Value), e = .returned (.int .u64 n) ∧ ErrLeft w w' g v ∧ ErrSt v (ok && r.isSome) ∧ (ok = true → ∀ b, r = some b → n = b)

theorem closureA (m : Option Nat) (val : List UInt8 → Option Nat) (Inv : World → Prop) (hR : Reads m val Inv) (lo hi : Nat) (s : ByteArray) (hs : s.size ≤ 4294967296) (h1 : lo ≤ hi) (h2 : hi ≤ 62) (g : Nat) (w : World) (hI : Inv w)
    (hg : g < w.heap.size) (v0 : Value) (ok : Bool) (hv : ErrSt v0 ok) (hc : w.cell? ⟨g, 0, none⟩ = some v0) (hf : w.frozen? ⟨g, 0, none⟩ = false) :
    Calls Tryz.prog 34 #[.string s, .agg #[.int .u64 lo, .int .u64 hi, .map m], .pointer (some ⟨g, 0, none⟩)] w (ClosureA w g ok (fieldS val lo hi s.data.toList)) := by
  cases ok with
  | true =>
    have := errSt_ok hv rfl
    subst this
    refine (closure_any m val Inv hR lo hi s hs h1 h2 g w hI hg hc hf).mono ?_
    intro e w' h
    generalize fieldS val lo hi s.data.toList = r at *
    cases r with
    | some b =>
      obtain ⟨rfl, w1, hb, rfl⟩ := h
      exact ⟨b, .nilIface, rfl, errLeft_of _ _ hb hg hc hf, rfl, fun _ b' e => by injection e with e; rw [e]⟩
    | none =>
      obtain ⟨n, t, x, rfl, w1, hb, rfl⟩ := h
      exact ⟨n, .iface t x, rfl, errLeft_of _ _ hb hg hc hf, ⟨t, x, rfl⟩, fun _ b' e => by cases e⟩
  | false =>
    obtain ⟨t, x, rfl⟩ := errSt_bad hv rfl
    refine (closureErr_any s .nilIface lo hi m g t x w hg hc).mono ?_
    rintro e w' ⟨rfl, hb⟩
    exact ⟨0, .iface t x, rfl, errLeft_same _ hb hg hc hf, ⟨t, x, rfl⟩, fun h => by cases h⟩

/-- the bounds of a kind of field, from its own function -/
abbrev BoundsOf (f : FuncId) (k : Nat) : Prop :=
  ∀ w : World, G w → Calls Tryz.prog f #[] w fun e w' => ∃ (m : Option Nat) (Inv : World → Prop), e = .returned (.agg #[.int .u64 (loK k : Nat), .int .u64 (hiK k : Nat), .map m]) ∧ Reads m (valK k) Inv ∧ Inv w' ∧ Below w.heap.size w w'

theorem bounds0 : BoundsOf 36 0 := fun w hg =>
  (seconds_any w).mono fun e w' ⟨he, hb⟩ => ⟨none, G, he, reads_nil, hg.below hb, hb⟩
theorem bounds1 : BoundsOf 37 1 := fun w hg =>
  (minutes_any w).mono fun e w' ⟨he, hb⟩ => ⟨none, G, he, reads_nil, hg.below hb, hb⟩
theorem bounds2 : BoundsOf 38 2 := fun w hg =>
  (hours_any w).mono fun e w' ⟨he, hb⟩ => ⟨none, G, he, reads_nil, hg.below hb, hb⟩
theorem bounds3 : BoundsOf 39 3 := fun w hg =>
  (dom_any w).mono fun e w' ⟨he, hb⟩ => ⟨none, G, he, reads_nil, hg.below hb, hb⟩
theorem bounds4 : BoundsOf 40 4 := fun w hg =>
  (months_any w).mono fun e w' ⟨r, he, _, hM, hb⟩ => ⟨some r, _, he, reads_named r monthsL months_small, ⟨hg.below hb, hM⟩, hb⟩
theorem bounds5 : BoundsOf 41 5 := fun w hg =>
  (dow_any w).mono fun e w' ⟨r, he, _, hM, hb⟩ => ⟨some r, _, he, reads_named r dowL dow_small, ⟨hg.below hb, hM⟩, hb⟩

/-- the bits of the field in a place -/
def bitsAt (l : List ByteArray) (k : Nat) : Option Nat := fieldS (valK k) (loK k) (hiK k) (l.getD k ⟨#[]⟩).data.toList

/-- the bits of six fields -/
def sixS (l : List ByteArray) : Option (List Nat) :=
  match bitsAt l 0, bitsAt l 1, bitsAt l 2, bitsAt l 3, bitsAt l 4, bitsAt l 5 with
  | some a, some b, some c, some d, some e, some f => some [a, b, c, d, e, f]
  | _, _, _, _, _, _ => none

/-- what Parse makes of a text of fields -/
def parseS (s : ByteArray) (o : Nat) : Option (List Nat) := if s.size = 0 then none else (normF (fieldsZ s) o).bind sixS

def specCells (l : List Nat) (loc : Option Addr) : Array Value := #[.int .u64 (l.getD 0 0 : Nat), .int .u64 (l.getD 1 0 : Nat), .int .u64 (l.getD 2 0 : Nat), .int .u64 (l.getD 3 0 : Nat), .int .u64 (l.getD 4 0 : Nat), .int .u64 (l.getD 5 0 : Nat), .pointer loc]

def ParseAns (w : World) (r : Option (List Nat)) (e : Ending) (w' : World) : Prop :=
  (match r with
    | some l => ∃ g, e = .returned (.tuple #[.iface 63 (.pointer (some ⟨g, 0, none⟩)), .nilIface]) ∧ w'.heap[g]? = some (.cells (specCells l none) 66 (0, 0))
    | none => ∃ t x, e = .returned (.tuple #[.nilIface, .iface t x])) ∧ Below w.heap.size w w'

def stN (st : Option Nat) : Nat := if st.isSome then 1 else 0

theorem spans_count (p : Nat → Bool) (s : ByteArray) : ∀ (f pos : Nat) (st : Option Nat) (acc : List (Nat × Nat)), (Lib.spansFromP p s f pos st acc).1.length + stN (Lib.spansFromP p s f pos st acc).2 ≤ acc.length + stN st + f
  | 0, _, st, acc => by unfold Lib.spansFromP; simp
  | f + 1, pos, st, acc => by
    unfold Lib.spansFromP
    split
    · split
      · cases st with
        | some a =>
          have := spans_count p s f (pos + (Utf8.decode s pos).2) none (acc ++ [(a, pos)])
          simp only [List.length_append, List.length_singleton] at this
          dsimp only
          simp only [stN, Option.isSome_some, Option.isSome_none, if_true] at this ⊢
          simp at this
          omega
        | none =>
          have := spans_count p s f (pos + (Utf8.decode s pos).2) none acc
          dsimp only
          omega
      · cases st with
        | some a =>
          have := spans_count p s f (pos + (Utf8.decode s pos).2) (some a) acc
          dsimp only
          simp only [stN, Option.isSome_some, if_true] at this ⊢
          omega
        | none =>
          have := spans_count p s f (pos + (Utf8.decode s pos).2) (some pos) acc
          dsimp only
          simp only [stN, Option.isSome_some, Option.isSome_none, if_true] at this ⊢
          simp
          omega
    · simp

theorem fieldsZ_len (s : ByteArray) : (fieldsZ s).length ≤ s.size := by
  have := spans_count spaceZ s s.size 0 none []
  unfold fieldsZ Lib.goFieldsP Lib.spansOfP
  rw [List.length_map]
  generalize Lib.spansFromP spaceZ s s.size 0 none [] = r at *
  obtain ⟨acc, st⟩ := r
  unfold Lib.closeSpans
  cases st with
  | none => simp [stN] at this ⊢; omega
  | some a =>
    simp only [stN, Option.isSome_some, if_true, Option.isSome_none, List.length_nil] at this
    simp at this ⊢
    omega

theorem goZ_len (s : ByteArray) (hs : s.size ≤ 4294967296) : (fieldsZ s).length ≤ 4294967296 := Nat.le_trans (fieldsZ_len s) hs

theorem fieldsZ_size (s : ByteArray) (x : ByteArray) (hx : x ∈ fieldsZ s) : x.size ≤ s.size := by
  unfold fieldsZ Lib.goFieldsP at hx
  rw [List.mem_map] at hx
  obtain ⟨y, _, rfl⟩ := hx
  rw [ByteArray.size_extract]
  omega

theorem fill_size (q : Nat) (N : Nat) (hN : 1 ≤ N) : ∀ (ps : List Nat) (ds fs : List ByteArray), (∀ x ∈ ds, x.size ≤ N) → (∀ x ∈ fs, x.size ≤ N) → ∀ x ∈ fillL q ps ds fs, x.size ≤ N
  | [], _, _, _, _, x, hx => by unfold fillL at hx; cases hx
  | p :: ps, [], _, _, _, x, hx => by unfold fillL at hx; cases hx
  | p :: ps, d :: ds, fs, hd, hf, x, hx => by
    unfold fillL at hx
    have hd' : ∀ y ∈ ds, y.size ≤ N := fun y hy => hd y (List.mem_cons_of_mem _ hy)
    split at hx
    · cases fs with
      | nil =>
        rcases List.mem_cons.1 hx with rfl | hx
        · exact hd _ (List.mem_cons_self ..)
        · exact fill_size q N hN ps ds [] hd' hf x hx
      | cons f fs =>
        rcases List.mem_cons.1 hx with rfl | hx
        · exact hf _ (List.mem_cons_self ..)
        · exact fill_size q N hN ps ds fs hd' (fun y hy => hf y (List.mem_cons_of_mem _ hy)) x hx
    · rcases List.mem_cons.1 hx with rfl | hx
      · exact hd _ (List.mem_cons_self ..)
      · exact fill_size q N hN ps ds fs hd' hf x hx

theorem norm_size {fs : List ByteArray} {o N : Nat} (hN : 1 ≤ N) (hf : ∀ x ∈ fs, x.size ≤ N) {l : List ByteArray} (h : normF fs o = some l) : ∀ x ∈ l, x.size ≤ N := by
  unfold normF at h
  split at h
  · cases h
  · split at h
    · cases h
    · injection h with h
      rw [← h]
      refine fill_size _ N hN _ _ _ ?_ ?_
      · intro x hx
        have : x.size = 1 := by
          unfold defaultsL at hx
          simp only [List.mem_cons, List.not_mem_nil, or_false] at hx
          rcases hx with rfl | rfl | rfl | rfl | rfl | rfl <;> rfl
        omega
      · split
        · split
          · intro x hx
            rcases List.mem_append.1 hx with hx | hx
            · exact hf x hx
            · rw [List.mem_singleton.1 hx]; exact hN
          · intro x hx
            rcases List.mem_cons.1 hx with rfl | hx
            · exact hN
            · exact hf x hx
        · exact hf
theorem norm_len {fs : List ByteArray} {o : Nat} {l : List ByteArray} (h : normF fs o = some l) : l.length = 6 := by
  unfold normF at h
  split at h
  · cases h
  · split at h
    · cases h
    · injection h with h
      rw [← h]
      exact fill_length _ placesL defaultsL _ rfl

/-- the fields' texts, and err's cell -/
structure PSt (w wc : World) (g c ge : Nat) (l : List ByteArray) (x : Value) : Prop where
  txt : Texts wc g 6 c l
  err : wc.cell? ⟨ge, 0, none⟩ = some x
  free : wc.frozen? ⟨ge, 0, none⟩ = false
  lt : ge < wc.heap.size
  ne : g ≠ ge
  bel : Below w.heap.size w wc
  geB : w.heap.size ≤ ge
  gB : w.heap.size ≤ g

theorem PSt.below {w wc w' : World} {g c ge : Nat} {l : List ByteArray} {x : Value} (h : PSt w wc g c ge l x) (hb : Below wc.heap.size wc w') : PSt w w' g c ge l x :=
  ⟨h.txt.below hb, (hb.cell (p := ⟨ge, 0, none⟩) h.lt).trans h.err, (hb.frozen (p := ⟨ge, 0, none⟩) h.lt).trans h.free, Nat.lt_of_lt_of_le h.lt hb.size, h.ne, below_of_le h.bel hb, h.geB, h.gB⟩

theorem PSt.left {w wc w' : World} {g c ge : Nat} {l : List ByteArray} {x v : Value} (h : PSt w wc g c ge l x) (hl : ErrLeft wc w' ge v) : PSt w w' g c ge l v := by
  obtain ⟨h1, h2, h3, h4, h5⟩ := hl
  refine ⟨⟨h.txt.len, h.txt.le, Nat.lt_of_lt_of_le h.txt.lt h3, fun i y hy => ?_⟩, h1, h2, Nat.lt_of_lt_of_le h.lt h3, h.ne, h.bel.trans (h5.mono h.geB), h.geB, h.gB⟩
  have := h.txt.at_ i y hy
  unfold World.cell? at this ⊢
  rw [h4 g h.txt.lt h.ne]
  exact this

theorem six_some {l : List ByteArray} {a b c d e f : Nat} (h0 : bitsAt l 0 = some a) (h1 : bitsAt l 1 = some b) (h2 : bitsAt l 2 = some c) (h3 : bitsAt l 3 = some d) (h4 : bitsAt l 4 = some e) (h5 : bitsAt l 5 = some f) : sixS l = some [a, b, c, d, e, f] := by
  unfold sixS
  rw [h0, h1, h2, h3, h4, h5]
theorem six_none {l : List ByteArray} (h : (((((true && (bitsAt l 0).isSome) && (bitsAt l 1).isSome) && (bitsAt l 2).isSome) && (bitsAt l 3).isSome) && (bitsAt l 4).isSome && (bitsAt l 5).isSome) = false) : sixS l = none := by
  unfold sixS
  split
  · rename_i h0 h1 h2 h3 h4 h5
    rw [h0, h1, h2, h3, h4, h5] at h
    cases h
  · rfl

set_option maxRecDepth 100000 in
set_option maxHeartbeats 4000000 in
theorem parsePlain (o : Nat) (ho : o < 512) (s : ByteArray) (hs : s.size ≤ 4294967296) (h1 : Lib.hasPrefix s.data.toList [84, 90, 61] = false) (h2 : Lib.hasPrefix s.data.toList [67, 82, 79, 78, 95, 84, 90, 61] = false)
    (h3 : Lib.hasPrefix s.data.toList [64] = false) (w : World) (hg : G w) :
    Calls Tryz.prog 20 #[.agg #[.int .i64 o], .string s] w (ParseAns w (parseS s o)) := by
  by_cases h0 : s.size = 0
  · have HR : Hid (parseS s o = none) := Lib.hid (by unfold parseS; rw [if_pos h0])
    have hd0 : ((s.size : Int) == 0) = true := by rw [h0]; rfl
    clear h0
    go_enter Tryz.func20, Tryz.ntmps20
    go_wp2_with fail
    refine (errorsNew_any _ _).mono ?_
    rintro e w1 ⟨t, x, rfl, hb⟩
    go_wp2_with fail
    go_ret2
    rw [HR.out]
    exact ⟨⟨t, x, rfl⟩, ((Below.refl _ _).alloc (Nat.le_refl _) _).trans (hb.mono (by simp))⟩
  · have HR : Hid (parseS s o = (normF (fieldsZ s) o).bind sixS) := Lib.hid (by unfold parseS; rw [if_neg h0])
    have hd0 : ((s.size : Int) == 0) = false := by
      rw [beq_eq_false_iff_ne]
      omega
    have HZ := Lib.hid (fun w' => zzFields_any s hs w')
    have HZL := Lib.hid (goZ_len s hs)
    have HZS : Hid (∀ x ∈ fieldsZ s, x.size ≤ 4294967296) := Lib.hid fun x hx => Nat.le_trans (fieldsZ_size s x hx) hs
    generalize fieldsZ s = fs at *
    have HP1 : Hid (∀ w' : World, Calls Tryz.prog 27 #[.string s, .string ⟨#[84, 90, 61]⟩] w' fun e w'' => e = .returned (.bool false) ∧ w' = w'') := Lib.hid fun w' => (Tryz.strings_HasPrefix s ⟨#[84, 90, 61]⟩ w').mono fun e w'' hh => ⟨hh.1.trans (by rw [show (⟨#[84, 90, 61]⟩ : ByteArray).data.toList = [84, 90, 61] from rfl, h1]), hh.2.symm⟩
    have HP2 : Hid (∀ w' : World, Calls Tryz.prog 27 #[.string s, .string ⟨#[67, 82, 79, 78, 95, 84, 90, 61]⟩] w' fun e w'' => e = .returned (.bool false) ∧ w' = w'') := Lib.hid fun w' => (Tryz.strings_HasPrefix s ⟨#[67, 82, 79, 78, 95, 84, 90, 61]⟩ w').mono fun e w'' hh => ⟨hh.1.trans (by rw [show (⟨#[67, 82, 79, 78, 95, 84, 90, 61]⟩ : ByteArray).data.toList = [67, 82, 79, 78, 95, 84, 90, 61] from rfl, h2]), hh.2.symm⟩
    have HP3 : Hid (∀ w' : World, Calls Tryz.prog 27 #[.string s, .string ⟨#[64]⟩] w' fun e w'' => e = .returned (.bool false) ∧ w' = w'') := Lib.hid fun w' => (Tryz.strings_HasPrefix s ⟨#[64]⟩ w').mono fun e w'' hh => ⟨hh.1.trans (by rw [show (⟨#[64]⟩ : ByteArray).data.toList = [64] from rfl, h3]), hh.2.symm⟩
    clear h0 h1 h2 h3
    go_enter Tryz.func20, Tryz.ntmps20
    go_wp2_with fail
    refine (HP1.out _).mono ?_
    rintro e w1 ⟨rfl, rfl⟩
    go_wp2_with fail
    refine (HP2.out _).mono ?_
    rintro e w1 ⟨rfl, rfl⟩
    go_wp2_with fail
    refine (HP3.out _).mono ?_
    rintro e w1 ⟨rfl, rfl⟩
    go_wp2_with fail
    refine (HZ.out _).mono ?_
    rintro e w1 ⟨v, rfl, hown, hb1⟩
    have hc0 : w1.cell? ⟨w.heap.size, 0, none⟩ = some (.int .i64 o) := (hb1.cell (p := ⟨w.heap.size, 0, none⟩) (by simp)).trans (by simp [go_sem])
    have hz1 : w.heap.size < w1.heap.size := by have := hb1.size; simp at this; omega
    have HNA : Hid (∀ w' : World, w'.heap.size = w1.heap.size + 1 → Below w1.heap.size w1 w' → Calls Tryz.prog 33 #[v, .int .i64 o] w' (NormAnswer (w.heap.size + 1) w1.heap.size w' (normF fs o))) := Lib.hid fun w' h1 h2 =>
      normal_any o ho fs v w' (w.heap.size + 1) (by
        have := hown
        rw [show (w.alloc (.cells #[.int .i64 o] 41)).heap.size = w.heap.size + 1 by simp] at this
        exact own_below this h2) HZL.out (by omega) w1.heap.size (by omega) (fun e => by
        have := (hown.lt _ e).2
        omega)
    have HB1 := Lib.hid hb1
    generalize hR0 : normF fs o = R0 at *
    clear hown hb1 HP1 HP2 HP3 HZ HZL
    go_wp2_with fail
    have HR0 : Hid (normF fs o = R0) := Lib.hid hR0
    clear hR0
    refine (HNA.out _ (by simp) ((Below.refl _ _).alloc (Nat.le_refl _) _)).mono ?_
    intro e w2 hN
    have HZN : Hid (∀ l, R0 = some l → (∀ x ∈ l, x.size ≤ 4294967296) ∧ l.length = 6) := Lib.hid fun l h => by
      rw [← HR0.out] at h
      exact ⟨norm_size (by decide) HZS.out h, norm_len h⟩
    have hge : (w1.alloc (.cells #[.nilIface] 48)).heap[w1.heap.size]? = some (.cells #[.nilIface] 48 (0, 0)) := heap_alloc_new w1 _
    obtain ⟨hres, hbN, hkN⟩ := hN
    have hcell := hkN.trans hge
    have hB2 : Below w.heap.size w w2 := (((Below.refl _ _).alloc (Nat.le_refl _) _).trans (HB1.out.mono (by simp))).trans ((((Below.refl _ _).alloc (Nat.le_refl w1.heap.size) _).mono (by omega)).trans (hbN.mono (by omega)))
    have hlt2 : w1.heap.size < w2.heap.size := (Array.getElem?_eq_some_iff.1 hcell).1
    have hcE : w2.cell? ⟨w1.heap.size, 0, none⟩ = some .nilIface := cell_of_row _ _ _ _ _ _ hcell
    have hfE : w2.frozen? ⟨w1.heap.size, 0, none⟩ = false := frozen_of_row _ _ _ _ _ hcell
    have hsz12 : (w1.alloc (.cells #[.nilIface] 48)).heap.size = w1.heap.size + 1 := by simp
    clear hge hkN hcell hbN
    have hmf : ∀ (fn : Fn) (first cap : Array Value) (w : World), (Instr.makeFunc fn first cap).run Tryz.prog w = .ok (.func fn first cap) w := fun _ _ _ _ => rfl
    cases R0 with
    | none =>
      obtain ⟨t, x, rfl⟩ := hres
      have HX : Hid (parseS s o = none) := Lib.hid (by rw [HR.out]; rfl)
      have HB := Lib.hid (hB2.setCell (p := ⟨w1.heap.size, 0, none⟩) (show w.heap.size ≤ w1.heap.size by omega) (.iface t x))
      clear hB2
      go_wp2_with fail
      go_quiet (fail)
      go_wp2_with fail
      go_ret2
      rw [HX.out]
      exact ⟨⟨t, x, rfl⟩, below_of_le HB.out (below_drewN _ nq)⟩
    | some l =>
      obtain ⟨g, c, rfl, hgg, hT⟩ := hres
      have HPS : Hid (PSt w (w2.setCell ⟨w1.heap.size, 0, none⟩ .nilIface) g c w1.heap.size l .nilIface) := Lib.hid (PSt.left (x := .nilIface) ⟨hT, hcE, hfE, hlt2, by omega, hB2, by omega, by omega⟩ (errLeft_of .nilIface .nilIface (Below.refl _ _) hlt2 hcE hfE))
      obtain ⟨hsz, hlen⟩ := HZN.out l rfl
      have HGW : Hid (∀ w', Below w.heap.size w w' → G w') := Lib.hid fun w' h => hg.below h
      have HX : Hid (parseS s o = sixS l) := Lib.hid (by rw [HR.out]; rfl)
      have hx : ∀ k, k < 6 → ∃ x, l[k]? = some x ∧ l.getD k ⟨#[]⟩ = x ∧ x.size ≤ 4294967296 := fun k hk => ⟨l[k], List.getElem?_eq_getElem (by omega), by simp [List.getD, show k < l.length by omega], hsz _ (List.getElem_mem _)⟩
      clear hT hB2 hsz hlen HR HR0 HZN HZS hgg hg
      obtain ⟨x0, hx0, hy0, hs0⟩ := hx 0 (by omega)
      have HC0 : Hid (∀ m Inv, Reads m (valK 0) Inv → ∀ w' : World, Inv w' → w1.heap.size < w'.heap.size → ∀ v0 ok, ErrSt v0 ok → w'.cell? ⟨w1.heap.size, 0, none⟩ = some v0 → w'.frozen? ⟨w1.heap.size, 0, none⟩ = false →
          Calls Tryz.prog 34 #[.string x0, .agg #[.int .u64 (loK 0 : Nat), .int .u64 (hiK 0 : Nat), .map m], .pointer (some ⟨w1.heap.size, 0, none⟩)] w' (ClosureA w' w1.heap.size ok (bitsAt l 0))) :=
        Lib.hid fun m Inv hR w' hI hg v0 ok hv hc hf => by
          unfold bitsAt
          rw [hy0]
          exact closureA m (valK 0) Inv hR (loK 0) (hiK 0) x0 hs0 (loK_le 0) (hiK_le 0) w1.heap.size w' hI hg v0 ok hv hc hf
      have HX0 := Lib.hid hx0
      obtain ⟨x1, hx1, hy1, hs1⟩ := hx 1 (by omega)
      have HC1 : Hid (∀ m Inv, Reads m (valK 1) Inv → ∀ w' : World, Inv w' → w1.heap.size < w'.heap.size → ∀ v0 ok, ErrSt v0 ok → w'.cell? ⟨w1.heap.size, 0, none⟩ = some v0 → w'.frozen? ⟨w1.heap.size, 0, none⟩ = false →
          Calls Tryz.prog 34 #[.string x1, .agg #[.int .u64 (loK 1 : Nat), .int .u64 (hiK 1 : Nat), .map m], .pointer (some ⟨w1.heap.size, 0, none⟩)] w' (ClosureA w' w1.heap.size ok (bitsAt l 1))) :=
        Lib.hid fun m Inv hR w' hI hg v0 ok hv hc hf => by
          unfold bitsAt
          rw [hy1]
          exact closureA m (valK 1) Inv hR (loK 1) (hiK 1) x1 hs1 (loK_le 1) (hiK_le 1) w1.heap.size w' hI hg v0 ok hv hc hf
      have HX1 := Lib.hid hx1
      obtain ⟨x2, hx2, hy2, hs2⟩ := hx 2 (by omega)
      have HC2 : Hid (∀ m Inv, Reads m (valK 2) Inv → ∀ w' : World, Inv w' → w1.heap.size < w'.heap.size → ∀ v0 ok, ErrSt v0 ok → w'.cell? ⟨w1.heap.size, 0, none⟩ = some v0 → w'.frozen? ⟨w1.heap.size, 0, none⟩ = false →
          Calls Tryz.prog 34 #[.string x2, .agg #[.int .u64 (loK 2 : Nat), .int .u64 (hiK 2 : Nat), .map m], .pointer (some ⟨w1.heap.size, 0, none⟩)] w' (ClosureA w' w1.heap.size ok (bitsAt l 2))) :=
        Lib.hid fun m Inv hR w' hI hg v0 ok hv hc hf => by
          unfold bitsAt
          rw [hy2]
          exact closureA m (valK 2) Inv hR (loK 2) (hiK 2) x2 hs2 (loK_le 2) (hiK_le 2) w1.heap.size w' hI hg v0 ok hv hc hf
      have HX2 := Lib.hid hx2
      obtain ⟨x3, hx3, hy3, hs3⟩ := hx 3 (by omega)
      have HC3 : Hid (∀ m Inv, Reads m (valK 3) Inv → ∀ w' : World, Inv w' → w1.heap.size < w'.heap.size → ∀ v0 ok, ErrSt v0 ok → w'.cell? ⟨w1.heap.size, 0, none⟩ = some v0 → w'.frozen? ⟨w1.heap.size, 0, none⟩ = false →
          Calls Tryz.prog 34 #[.string x3, .agg #[.int .u64 (loK 3 : Nat), .int .u64 (hiK 3 : Nat), .map m], .pointer (some ⟨w1.heap.size, 0, none⟩)] w' (ClosureA w' w1.heap.size ok (bitsAt l 3))) :=
        Lib.hid fun m Inv hR w' hI hg v0 ok hv hc hf => by
          unfold bitsAt
          rw [hy3]
          exact closureA m (valK 3) Inv hR (loK 3) (hiK 3) x3 hs3 (loK_le 3) (hiK_le 3) w1.heap.size w' hI hg v0 ok hv hc hf
      have HX3 := Lib.hid hx3
      obtain ⟨x4, hx4, hy4, hs4⟩ := hx 4 (by omega)
      have HC4 : Hid (∀ m Inv, Reads m (valK 4) Inv → ∀ w' : World, Inv w' → w1.heap.size < w'.heap.size → ∀ v0 ok, ErrSt v0 ok → w'.cell? ⟨w1.heap.size, 0, none⟩ = some v0 → w'.frozen? ⟨w1.heap.size, 0, none⟩ = false →
          Calls Tryz.prog 34 #[.string x4, .agg #[.int .u64 (loK 4 : Nat), .int .u64 (hiK 4 : Nat), .map m], .pointer (some ⟨w1.heap.size, 0, none⟩)] w' (ClosureA w' w1.heap.size ok (bitsAt l 4))) :=
        Lib.hid fun m Inv hR w' hI hg v0 ok hv hc hf => by
          unfold bitsAt
          rw [hy4]
          exact closureA m (valK 4) Inv hR (loK 4) (hiK 4) x4 hs4 (loK_le 4) (hiK_le 4) w1.heap.size w' hI hg v0 ok hv hc hf
      have HX4 := Lib.hid hx4
      obtain ⟨x5, hx5, hy5, hs5⟩ := hx 5 (by omega)
      have HC5 : Hid (∀ m Inv, Reads m (valK 5) Inv → ∀ w' : World, Inv w' → w1.heap.size < w'.heap.size → ∀ v0 ok, ErrSt v0 ok → w'.cell? ⟨w1.heap.size, 0, none⟩ = some v0 → w'.frozen? ⟨w1.heap.size, 0, none⟩ = false →
          Calls Tryz.prog 34 #[.string x5, .agg #[.int .u64 (loK 5 : Nat), .int .u64 (hiK 5 : Nat), .map m], .pointer (some ⟨w1.heap.size, 0, none⟩)] w' (ClosureA w' w1.heap.size ok (bitsAt l 5))) :=
        Lib.hid fun m Inv hR w' hI hg v0 ok hv hc hf => by
          unfold bitsAt
          rw [hy5]
          exact closureA m (valK 5) Inv hR (loK 5) (hiK 5) x5 hs5 (loK_le 5) (hiK_le 5) w1.heap.size w' hI hg v0 ok hv hc hf
      have HX5 := Lib.hid hx5
      have HS := Lib.hid (fun a b c d e f => six_some (l := l) (a := a) (b := b) (c := c) (d := d) (e := e) (f := f))
      have HN := Lib.hid (six_none (l := l))
      clear hx hy0 hy1 hy2 hy3 hy4 hy5 hx0 hx1 hx2 hx3 hx4 hx5 hs0 hs1 hs2 hs3 hs4 hs5
      generalize sixS l = R6 at *
      generalize bitsAt l 0 = r0 at *
      generalize bitsAt l 1 = r1 at *
      generalize bitsAt l 2 = r2 at *
      generalize bitsAt l 3 = r3 at *
      generalize bitsAt l 4 = r4 at *
      generalize bitsAt l 5 = r5 at *
      go_wp2_with fail
      generalize hW3 : w2.setCell ⟨w1.heap.size, 0, none⟩ .nilIface = w3 at *
      clear hW3 hcE hfE hlt2
      have hE0 : Hid (ErrSt .nilIface true) := Lib.hid rfl
      generalize hge : w1.heap.size = ge at *
      clear hge
      go_upto_region 22 with fail

      go_cut [13] (fun v wc => ∃ (n : Int) (x : Value), v = .int .u64 n ∧ Hid (PSt w wc g c ge l x) ∧ Hid (ErrSt x (true && r0.isSome)) ∧ Hid (true = true → ∀ b, r0 = some b → n = b))
      case first =>
        have hc0 : w3.cell? ⟨g, 0, none⟩ = some (.string x0) := HPS.out.txt.at_ 0 _ HX0.out
        have hgl : g < w3.heap.size := HPS.out.txt.lt
        refine start_ (n := 7) (S := fun w' => w'.cell? ⟨g, 0, none⟩ = some (.string x0)) (ds := [5]) #[false, false, false, false, false, false, false] (by kernel_rfl) rfl rfl (hc0) (fun hHeld => ?_)
        refine pure_ (i := 0) (N := some 74) (v := ?_) (a' := ?_) #[true, false, false, false, false, false, false] rfl rfl (by kernel_rfl) (fun _ _ _ h => h) (Or.inl ⟨by rfl, ?_⟩) ?_ ?_
        rotate_left
        · intro w'
          go_simp
          with_reducible rfl
        rotate_left
        · simp only [Act.put, List.setIfInBounds_toArray, List.set_cons_zero, List.set_cons_succ, i64_w, i32_w]
          rfl
        refine pure_ (i := 1) (N := some 75) (v := ?_) (a' := ?_) #[true, true, false, false, false, false, false] rfl rfl (by kernel_rfl) (fun _ _ _ h => h) (Or.inl ⟨by rfl, ?_⟩) ?_ ?_
        rotate_left
        · intro w'
          go_simp
          with_reducible rfl
        rotate_left
        · simp only [Act.put, List.setIfInBounds_toArray, List.set_cons_zero, List.set_cons_succ, i64_w, i32_w]
          rfl
        refine pure_ (i := 2) (N := some 76) (v := ?_) (a' := ?_) #[true, true, true, false, false, false, false] rfl rfl (by kernel_rfl) (fun _ _ _ h => h) (Or.inl ⟨by rfl, ?_⟩) ?_ ?_
        rotate_left
        · intro w'
          go_simp
          with_reducible rfl
        rotate_left
        · simp only [Act.put, List.setIfInBounds_toArray, List.set_cons_zero, List.set_cons_succ, i64_w, i32_w]
          rfl
        refine take_ (i := 3) (N := some 77) (v := ?_) (a' := ?_) #[true, true, true, true, false, false, false] rfl rfl (by kernel_rfl) (fun _ _ _ h => h) (Or.inl ⟨by rfl, ?_⟩) hHeld ?_ ?_
        rotate_left
        · intro w' s0
          go_simp
          with_reducible rfl
        rotate_left
        · simp only [Act.put, List.setIfInBounds_toArray, List.set_cons_zero, List.set_cons_succ, i64_w, i32_w]
          rfl
        refine one_ (i := 4) (N := some 78) #[true, true, true, true, true, false, false] rfl rfl (by kernel_rfl) (by decide) (fun K hK => ?_)
        refine goes_ Tryz.func36 (by kernel_rfl) rfl #[] (by rfl) rfl rfl (by simp only [List.map_toArray, List.map_nil]) ?_
        with_reducible refine (bounds0 _ (HGW.out _ (HPS.out.bel.drew))).mono ?_
        rintro e w4 ⟨m, Inv, rfl, hR, hI, hb4⟩
        refine ⟨_, rfl, ?_⟩
        refine hK.out _ _ ((hb4.cell (p := ⟨g, 0, none⟩) hgl).trans hc0) (fun hHeld => ?_)
        clear hK K
        refine norm_ (a' := ?_) ?_ ?_
        rotate_left
        · show Act.put _ (some 78) _ = _
          simp only [Act.put, List.setIfInBounds_toArray, List.set_cons_zero, List.set_cons_succ, i64_w, i32_w]
          rfl
        refine last_ (i := 5) (N := some 79) #[true, true, true, true, true, true, false] rfl rfl (by kernel_rfl) (by decide) (fun K hK => ?_)
        have HP4 := Lib.hid ((HPS.out.below ((Below.refl _ _).drew)).below hb4)
        refine goesV_ Tryz.func34 (by kernel_rfl) rfl #[.string x0, .agg #[.int .u64 (loK 0 : Nat), .int .u64 (hiK 0 : Nat), .map m]] #[.pointer (some ⟨ge, 0, none⟩)] #[.string x0, .agg #[.int .u64 (loK 0 : Nat), .int .u64 (hiK 0 : Nat), .map m], .pointer (some ⟨ge, 0, none⟩)] rfl (by rfl) (by rfl) rfl rfl (by simp only [List.map_toArray, List.map_cons, List.map_nil]; rfl) ?_
        with_reducible refine (HC0.out m Inv hR _ hI HP4.out.lt .nilIface true hE0.out HP4.out.err HP4.out.free).mono ?_
        rintro e w5 ⟨n, x, rfl, hl5, he5, hn5⟩
        refine ⟨_, rfl, ?_⟩
        have HP5 := Lib.hid (HP4.out.left hl5)
        have HE5 := Lib.hid he5
        have HN5 := Lib.hid hn5
        clear hl5 he5 hn5
        refine hK.out _ _ ?_
        clear hK K
        refine norm_ (a' := ?_) ?_ ?_
        rotate_left
        · show Act.put _ (some 79) _ = _
          simp only [Act.put, List.setIfInBounds_toArray, List.set_cons_zero, List.set_cons_succ, i64_w, i32_w]
          rfl
        refine pure_ (i := 6) (N := some 13) (v := ?_) (a' := ?_) #[true, true, true, true, true, true, true] rfl rfl (by kernel_rfl) (fun _ _ _ h => h) (Or.inl ⟨by rfl, ?_⟩) ?_ ?_
        rotate_left
        · intro w'
          go_simp
          with_reducible rfl
        rotate_left
        · simp only [Act.put, List.setIfInBounds_toArray, List.set_cons_zero, List.set_cons_succ, i64_w, i32_w]
          rfl
        refine done_ (by kernel_rfl) ?_
        go_wp2_with fail
        go_meet
        exact ⟨n, x, rfl, HP5, HE5, HN5⟩
      case rest =>
      obtain ⟨n0, e0, rfl, HPS0, HE0, HN0⟩ := hcut
      obtain ⟨wk0, rfl⟩ : ∃ wk : World, wk = wc := ⟨_, rfl⟩
      clear HPS hE0 HC0 HX0
      go_upto_region 23 with fail
      go_cut [14] (fun v wc => ∃ (n : Int) (x : Value), v = .int .u64 n ∧ Hid (PSt w wc g c ge l x) ∧ Hid (ErrSt x ((true && r0.isSome) && r1.isSome)) ∧ Hid ((true && r0.isSome) = true → ∀ b, r1 = some b → n = b))
      case first =>
        have hc1 : wk0.cell? ⟨g, 1, none⟩ = some (.string x1) := HPS0.out.txt.at_ 1 _ HX1.out
        have hgl : g < wk0.heap.size := HPS0.out.txt.lt
        refine start_ (n := 7) (S := fun w' => w'.cell? ⟨g, 1, none⟩ = some (.string x1)) (ds := [5]) #[false, false, false, false, false, false, false] (by kernel_rfl) rfl rfl (hc1) (fun hHeld => ?_)
        refine pure_ (i := 0) (N := some 80) (v := ?_) (a' := ?_) #[true, false, false, false, false, false, false] rfl rfl (by kernel_rfl) (fun _ _ _ h => h) (Or.inl ⟨by rfl, ?_⟩) ?_ ?_
        rotate_left
        · intro w'
          go_simp
          with_reducible rfl
        rotate_left
        · simp only [Act.put, List.setIfInBounds_toArray, List.set_cons_zero, List.set_cons_succ, i64_w, i32_w]
          rfl
        refine pure_ (i := 1) (N := some 81) (v := ?_) (a' := ?_) #[true, true, false, false, false, false, false] rfl rfl (by kernel_rfl) (fun _ _ _ h => h) (Or.inl ⟨by rfl, ?_⟩) ?_ ?_
        rotate_left
        · intro w'
          go_simp
          with_reducible rfl
        rotate_left
        · simp only [Act.put, List.setIfInBounds_toArray, List.set_cons_zero, List.set_cons_succ, i64_w, i32_w]
          rfl
        refine pure_ (i := 2) (N := some 82) (v := ?_) (a' := ?_) #[true, true, true, false, false, false, false] rfl rfl (by kernel_rfl) (fun _ _ _ h => h) (Or.inl ⟨by rfl, ?_⟩) ?_ ?_
        rotate_left
        · intro w'
          go_simp
          with_reducible rfl
        rotate_left
        · simp only [Act.put, List.setIfInBounds_toArray, List.set_cons_zero, List.set_cons_succ, i64_w, i32_w]
          rfl
        refine take_ (i := 3) (N := some 83) (v := ?_) (a' := ?_) #[true, true, true, true, false, false, false] rfl rfl (by kernel_rfl) (fun _ _ _ h => h) (Or.inl ⟨by rfl, ?_⟩) hHeld ?_ ?_
        rotate_left
        · intro w' s0
          go_simp
          with_reducible rfl
        rotate_left
        · simp only [Act.put, List.setIfInBounds_toArray, List.set_cons_zero, List.set_cons_succ, i64_w, i32_w]
          rfl
        refine one_ (i := 4) (N := some 84) #[true, true, true, true, true, false, false] rfl rfl (by kernel_rfl) (by decide) (fun K hK => ?_)
        refine goes_ Tryz.func37 (by kernel_rfl) rfl #[] (by rfl) rfl rfl (by simp only [List.map_toArray, List.map_nil]) ?_
        with_reducible refine (bounds1 _ (HGW.out _ (HPS0.out.bel.drew))).mono ?_
        rintro e w4 ⟨m, Inv, rfl, hR, hI, hb4⟩
        refine ⟨_, rfl, ?_⟩
        refine hK.out _ _ ((hb4.cell (p := ⟨g, 1, none⟩) hgl).trans hc1) (fun hHeld => ?_)
        clear hK K
        refine norm_ (a' := ?_) ?_ ?_
        rotate_left
        · show Act.put _ (some 84) _ = _
          simp only [Act.put, List.setIfInBounds_toArray, List.set_cons_zero, List.set_cons_succ, i64_w, i32_w]
          rfl
        refine last_ (i := 5) (N := some 85) #[true, true, true, true, true, true, false] rfl rfl (by kernel_rfl) (by decide) (fun K hK => ?_)
        have HP4 := Lib.hid ((HPS0.out.below ((Below.refl _ _).drew)).below hb4)
        refine goesV_ Tryz.func34 (by kernel_rfl) rfl #[.string x1, .agg #[.int .u64 (loK 1 : Nat), .int .u64 (hiK 1 : Nat), .map m]] #[.pointer (some ⟨ge, 0, none⟩)] #[.string x1, .agg #[.int .u64 (loK 1 : Nat), .int .u64 (hiK 1 : Nat), .map m], .pointer (some ⟨ge, 0, none⟩)] rfl (by rfl) (by rfl) rfl rfl (by simp only [List.map_toArray, List.map_cons, List.map_nil]; rfl) ?_
        with_reducible refine (HC1.out m Inv hR _ hI HP4.out.lt e0 (true && r0.isSome) HE0.out HP4.out.err HP4.out.free).mono ?_
        rintro e w5 ⟨n, x, rfl, hl5, he5, hn5⟩
        refine ⟨_, rfl, ?_⟩
        have HP5 := Lib.hid (HP4.out.left hl5)
        have HE5 := Lib.hid he5
        have HN5 := Lib.hid hn5
        clear hl5 he5 hn5
        refine hK.out _ _ ?_
        clear hK K
        refine norm_ (a' := ?_) ?_ ?_
        rotate_left
        · show Act.put _ (some 85) _ = _
          simp only [Act.put, List.setIfInBounds_toArray, List.set_cons_zero, List.set_cons_succ, i64_w, i32_w]
          rfl
        refine pure_ (i := 6) (N := some 14) (v := ?_) (a' := ?_) #[true, true, true, true, true, true, true] rfl rfl (by kernel_rfl) (fun _ _ _ h => h) (Or.inl ⟨by rfl, ?_⟩) ?_ ?_
        rotate_left
        · intro w'
          go_simp
          with_reducible rfl
        rotate_left
        · simp only [Act.put, List.setIfInBounds_toArray, List.set_cons_zero, List.set_cons_succ, i64_w, i32_w]
          rfl
        refine done_ (by kernel_rfl) ?_
        go_wp2_with fail
        go_meet
        exact ⟨n, x, rfl, HP5, HE5, HN5⟩
      case rest =>
      obtain ⟨n1, e1, rfl, HPS1, HE1, HN1⟩ := hcut
      obtain ⟨wk1, rfl⟩ : ∃ wk : World, wk = wc := ⟨_, rfl⟩
      clear HPS0 HE0 HC1 HX1
      go_upto_region 24 with fail
      go_cut [15] (fun v wc => ∃ (n : Int) (x : Value), v = .int .u64 n ∧ Hid (PSt w wc g c ge l x) ∧ Hid (ErrSt x (((true && r0.isSome) && r1.isSome) && r2.isSome)) ∧ Hid (((true && r0.isSome) && r1.isSome) = true → ∀ b, r2 = some b → n = b))
      case first =>
        have hc2 : wk1.cell? ⟨g, 2, none⟩ = some (.string x2) := HPS1.out.txt.at_ 2 _ HX2.out
        have hgl : g < wk1.heap.size := HPS1.out.txt.lt
        refine start_ (n := 7) (S := fun w' => w'.cell? ⟨g, 2, none⟩ = some (.string x2)) (ds := [5]) #[false, false, false, false, false, false, false] (by kernel_rfl) rfl rfl (hc2) (fun hHeld => ?_)
        refine pure_ (i := 0) (N := some 86) (v := ?_) (a' := ?_) #[true, false, false, false, false, false, false] rfl rfl (by kernel_rfl) (fun _ _ _ h => h) (Or.inl ⟨by rfl, ?_⟩) ?_ ?_
        rotate_left
        · intro w'
          go_simp
          with_reducible rfl
        rotate_left
        · simp only [Act.put, List.setIfInBounds_toArray, List.set_cons_zero, List.set_cons_succ, i64_w, i32_w]
          rfl
        refine pure_ (i := 1) (N := some 87) (v := ?_) (a' := ?_) #[true, true, false, false, false, false, false] rfl rfl (by kernel_rfl) (fun _ _ _ h => h) (Or.inl ⟨by rfl, ?_⟩) ?_ ?_
        rotate_left
        · intro w'
          go_simp
          with_reducible rfl
        rotate_left
        · simp only [Act.put, List.setIfInBounds_toArray, List.set_cons_zero, List.set_cons_succ, i64_w, i32_w]
          rfl
        refine pure_ (i := 2) (N := some 88) (v := ?_) (a' := ?_) #[true, true, true, false, false, false, false] rfl rfl (by kernel_rfl) (fun _ _ _ h => h) (Or.inl ⟨by rfl, ?_⟩) ?_ ?_
        rotate_left
        · intro w'
          go_simp
          with_reducible rfl
        rotate_left
        · simp only [Act.put, List.setIfInBounds_toArray, List.set_cons_zero, List.set_cons_succ, i64_w, i32_w]
          rfl
        refine take_ (i := 3) (N := some 89) (v := ?_) (a' := ?_) #[true, true, true, true, false, false, false] rfl rfl (by kernel_rfl) (fun _ _ _ h => h) (Or.inl ⟨by rfl, ?_⟩) hHeld ?_ ?_
        rotate_left
        · intro w' s0
          go_simp
          with_reducible rfl
        rotate_left
        · simp only [Act.put, List.setIfInBounds_toArray, List.set_cons_zero, List.set_cons_succ, i64_w, i32_w]
          rfl
        refine one_ (i := 4) (N := some 90) #[true, true, true, true, true, false, false] rfl rfl (by kernel_rfl) (by decide) (fun K hK => ?_)
        refine goes_ Tryz.func38 (by kernel_rfl) rfl #[] (by rfl) rfl rfl (by simp only [List.map_toArray, List.map_nil]) ?_
        with_reducible refine (bounds2 _ (HGW.out _ (HPS1.out.bel.drew))).mono ?_
        rintro e w4 ⟨m, Inv, rfl, hR, hI, hb4⟩
        refine ⟨_, rfl, ?_⟩
        refine hK.out _ _ ((hb4.cell (p := ⟨g, 2, none⟩) hgl).trans hc2) (fun hHeld => ?_)
        clear hK K
        refine norm_ (a' := ?_) ?_ ?_
        rotate_left
        · show Act.put _ (some 90) _ = _
          simp only [Act.put, List.setIfInBounds_toArray, List.set_cons_zero, List.set_cons_succ, i64_w, i32_w]
          rfl
        refine last_ (i := 5) (N := some 91) #[true, true, true, true, true, true, false] rfl rfl (by kernel_rfl) (by decide) (fun K hK => ?_)
        have HP4 := Lib.hid ((HPS1.out.below ((Below.refl _ _).drew)).below hb4)
        refine goesV_ Tryz.func34 (by kernel_rfl) rfl #[.string x2, .agg #[.int .u64 (loK 2 : Nat), .int .u64 (hiK 2 : Nat), .map m]] #[.pointer (some ⟨ge, 0, none⟩)] #[.string x2, .agg #[.int .u64 (loK 2 : Nat), .int .u64 (hiK 2 : Nat), .map m], .pointer (some ⟨ge, 0, none⟩)] rfl (by rfl) (by rfl) rfl rfl (by simp only [List.map_toArray, List.map_cons, List.map_nil]; rfl) ?_
        with_reducible refine (HC2.out m Inv hR _ hI HP4.out.lt e1 ((true && r0.isSome) && r1.isSome) HE1.out HP4.out.err HP4.out.free).mono ?_
        rintro e w5 ⟨n, x, rfl, hl5, he5, hn5⟩
        refine ⟨_, rfl, ?_⟩
        have HP5 := Lib.hid (HP4.out.left hl5)
        have HE5 := Lib.hid he5
        have HN5 := Lib.hid hn5
        clear hl5 he5 hn5
        refine hK.out _ _ ?_
        clear hK K
        refine norm_ (a' := ?_) ?_ ?_
        rotate_left
        · show Act.put _ (some 91) _ = _
          simp only [Act.put, List.setIfInBounds_toArray, List.set_cons_zero, List.set_cons_succ, i64_w, i32_w]
          rfl
        refine pure_ (i := 6) (N := some 15) (v := ?_) (a' := ?_) #[true, true, true, true, true, true, true] rfl rfl (by kernel_rfl) (fun _ _ _ h => h) (Or.inl ⟨by rfl, ?_⟩) ?_ ?_
        rotate_left
        · intro w'
          go_simp
          with_reducible rfl
        rotate_left
        · simp only [Act.put, List.setIfInBounds_toArray, List.set_cons_zero, List.set_cons_succ, i64_w, i32_w]
          rfl
        refine done_ (by kernel_rfl) ?_
        go_wp2_with fail
        go_meet
        exact ⟨n, x, rfl, HP5, HE5, HN5⟩
      case rest =>
      obtain ⟨n2, e2, rfl, HPS2, HE2, HN2⟩ := hcut
      obtain ⟨wk2, rfl⟩ : ∃ wk : World, wk = wc := ⟨_, rfl⟩
      clear HPS1 HE1 HC2 HX2
      go_upto_region 25 with fail
      go_cut [16] (fun v wc => ∃ (n : Int) (x : Value), v = .int .u64 n ∧ Hid (PSt w wc g c ge l x) ∧ Hid (ErrSt x ((((true && r0.isSome) && r1.isSome) && r2.isSome) && r3.isSome)) ∧ Hid ((((true && r0.isSome) && r1.isSome) && r2.isSome) = true → ∀ b, r3 = some b → n = b))
      case first =>
        have hc3 : wk2.cell? ⟨g, 3, none⟩ = some (.string x3) := HPS2.out.txt.at_ 3 _ HX3.out
        have hgl : g < wk2.heap.size := HPS2.out.txt.lt
        refine start_ (n := 7) (S := fun w' => w'.cell? ⟨g, 3, none⟩ = some (.string x3)) (ds := [5]) #[false, false, false, false, false, false, false] (by kernel_rfl) rfl rfl (hc3) (fun hHeld => ?_)
        refine pure_ (i := 0) (N := some 92) (v := ?_) (a' := ?_) #[true, false, false, false, false, false, false] rfl rfl (by kernel_rfl) (fun _ _ _ h => h) (Or.inl ⟨by rfl, ?_⟩) ?_ ?_
        rotate_left
        · intro w'
          go_simp
          with_reducible rfl
        rotate_left
        · simp only [Act.put, List.setIfInBounds_toArray, List.set_cons_zero, List.set_cons_succ, i64_w, i32_w]
          rfl
        refine pure_ (i := 1) (N := some 93) (v := ?_) (a' := ?_) #[true, true, false, false, false, false, false] rfl rfl (by kernel_rfl) (fun _ _ _ h => h) (Or.inl ⟨by rfl, ?_⟩) ?_ ?_
        rotate_left
        · intro w'
          go_simp
          with_reducible rfl
        rotate_left
        · simp only [Act.put, List.setIfInBounds_toArray, List.set_cons_zero, List.set_cons_succ, i64_w, i32_w]
          rfl
        refine pure_ (i := 2) (N := some 94) (v := ?_) (a' := ?_) #[true, true, true, false, false, false, false] rfl rfl (by kernel_rfl) (fun _ _ _ h => h) (Or.inl ⟨by rfl, ?_⟩) ?_ ?_
        rotate_left
        · intro w'
          go_simp
          with_reducible rfl
        rotate_left
        · simp only [Act.put, List.setIfInBounds_toArray, List.set_cons_zero, List.set_cons_succ, i64_w, i32_w]
          rfl
        refine take_ (i := 3) (N := some 95) (v := ?_) (a' := ?_) #[true, true, true, true, false, false, false] rfl rfl (by kernel_rfl) (fun _ _ _ h => h) (Or.inl ⟨by rfl, ?_⟩) hHeld ?_ ?_
        rotate_left
        · intro w' s0
          go_simp
          with_reducible rfl
        rotate_left
        · simp only [Act.put, List.setIfInBounds_toArray, List.set_cons_zero, List.set_cons_succ, i64_w, i32_w]
          rfl
        refine one_ (i := 4) (N := some 96) #[true, true, true, true, true, false, false] rfl rfl (by kernel_rfl) (by decide) (fun K hK => ?_)
        refine goes_ Tryz.func39 (by kernel_rfl) rfl #[] (by rfl) rfl rfl (by simp only [List.map_toArray, List.map_nil]) ?_
        with_reducible refine (bounds3 _ (HGW.out _ (HPS2.out.bel.drew))).mono ?_
        rintro e w4 ⟨m, Inv, rfl, hR, hI, hb4⟩
        refine ⟨_, rfl, ?_⟩
        refine hK.out _ _ ((hb4.cell (p := ⟨g, 3, none⟩) hgl).trans hc3) (fun hHeld => ?_)
        clear hK K
        refine norm_ (a' := ?_) ?_ ?_
        rotate_left
        · show Act.put _ (some 96) _ = _
          simp only [Act.put, List.setIfInBounds_toArray, List.set_cons_zero, List.set_cons_succ, i64_w, i32_w]
          rfl
        refine last_ (i := 5) (N := some 97) #[true, true, true, true, true, true, false] rfl rfl (by kernel_rfl) (by decide) (fun K hK => ?_)
        have HP4 := Lib.hid ((HPS2.out.below ((Below.refl _ _).drew)).below hb4)
        refine goesV_ Tryz.func34 (by kernel_rfl) rfl #[.string x3, .agg #[.int .u64 (loK 3 : Nat), .int .u64 (hiK 3 : Nat), .map m]] #[.pointer (some ⟨ge, 0, none⟩)] #[.string x3, .agg #[.int .u64 (loK 3 : Nat), .int .u64 (hiK 3 : Nat), .map m], .pointer (some ⟨ge, 0, none⟩)] rfl (by rfl) (by rfl) rfl rfl (by simp only [List.map_toArray, List.map_cons, List.map_nil]; rfl) ?_
        with_reducible refine (HC3.out m Inv hR _ hI HP4.out.lt e2 (((true && r0.isSome) && r1.isSome) && r2.isSome) HE2.out HP4.out.err HP4.out.free).mono ?_
        rintro e w5 ⟨n, x, rfl, hl5, he5, hn5⟩
        refine ⟨_, rfl, ?_⟩
        have HP5 := Lib.hid (HP4.out.left hl5)
        have HE5 := Lib.hid he5
        have HN5 := Lib.hid hn5
        clear hl5 he5 hn5
        refine hK.out _ _ ?_
        clear hK K
        refine norm_ (a' := ?_) ?_ ?_
        rotate_left
        · show Act.put _ (some 97) _ = _
          simp only [Act.put, List.setIfInBounds_toArray, List.set_cons_zero, List.set_cons_succ, i64_w, i32_w]
          rfl
        refine pure_ (i := 6) (N := some 16) (v := ?_) (a' := ?_) #[true, true, true, true, true, true, true] rfl rfl (by kernel_rfl) (fun _ _ _ h => h) (Or.inl ⟨by rfl, ?_⟩) ?_ ?_
        rotate_left
        · intro w'
          go_simp
          with_reducible rfl
        rotate_left
        · simp only [Act.put, List.setIfInBounds_toArray, List.set_cons_zero, List.set_cons_succ, i64_w, i32_w]
          rfl
        refine done_ (by kernel_rfl) ?_
        go_wp2_with fail
        go_meet
        exact ⟨n, x, rfl, HP5, HE5, HN5⟩
      case rest =>
      obtain ⟨n3, e3, rfl, HPS3, HE3, HN3⟩ := hcut
      obtain ⟨wk3, rfl⟩ : ∃ wk : World, wk = wc := ⟨_, rfl⟩
      clear HPS2 HE2 HC3 HX3
      go_upto_region 26 with fail
      go_cut [17] (fun v wc => ∃ (n : Int) (x : Value), v = .int .u64 n ∧ Hid (PSt w wc g c ge l x) ∧ Hid (ErrSt x (((((true && r0.isSome) && r1.isSome) && r2.isSome) && r3.isSome) && r4.isSome)) ∧ Hid (((((true && r0.isSome) && r1.isSome) && r2.isSome) && r3.isSome) = true → ∀ b, r4 = some b → n = b))
      case first =>
        have hc4 : wk3.cell? ⟨g, 4, none⟩ = some (.string x4) := HPS3.out.txt.at_ 4 _ HX4.out
        have hgl : g < wk3.heap.size := HPS3.out.txt.lt
        refine start_ (n := 7) (S := fun w' => w'.cell? ⟨g, 4, none⟩ = some (.string x4)) (ds := [5]) #[false, false, false, false, false, false, false] (by kernel_rfl) rfl rfl (hc4) (fun hHeld => ?_)
        refine pure_ (i := 0) (N := some 98) (v := ?_) (a' := ?_) #[true, false, false, false, false, false, false] rfl rfl (by kernel_rfl) (fun _ _ _ h => h) (Or.inl ⟨by rfl, ?_⟩) ?_ ?_
        rotate_left
        · intro w'
          go_simp
          with_reducible rfl
        rotate_left
        · simp only [Act.put, List.setIfInBounds_toArray, List.set_cons_zero, List.set_cons_succ, i64_w, i32_w]
          rfl
        refine pure_ (i := 1) (N := some 99) (v := ?_) (a' := ?_) #[true, true, false, false, false, false, false] rfl rfl (by kernel_rfl) (fun _ _ _ h => h) (Or.inl ⟨by rfl, ?_⟩) ?_ ?_
        rotate_left
        · intro w'
          go_simp
          with_reducible rfl
        rotate_left
        · simp only [Act.put, List.setIfInBounds_toArray, List.set_cons_zero, List.set_cons_succ, i64_w, i32_w]
          rfl
        refine pure_ (i := 2) (N := some 100) (v := ?_) (a' := ?_) #[true, true, true, false, false, false, false] rfl rfl (by kernel_rfl) (fun _ _ _ h => h) (Or.inl ⟨by rfl, ?_⟩) ?_ ?_
        rotate_left
        · intro w'
          go_simp
          with_reducible rfl
        rotate_left
        · simp only [Act.put, List.setIfInBounds_toArray, List.set_cons_zero, List.set_cons_succ, i64_w, i32_w]
          rfl
        refine take_ (i := 3) (N := some 101) (v := ?_) (a' := ?_) #[true, true, true, true, false, false, false] rfl rfl (by kernel_rfl) (fun _ _ _ h => h) (Or.inl ⟨by rfl, ?_⟩) hHeld ?_ ?_
        rotate_left
        · intro w' s0
          go_simp
          with_reducible rfl
        rotate_left
        · simp only [Act.put, List.setIfInBounds_toArray, List.set_cons_zero, List.set_cons_succ, i64_w, i32_w]
          rfl
        refine one_ (i := 4) (N := some 102) #[true, true, true, true, true, false, false] rfl rfl (by kernel_rfl) (by decide) (fun K hK => ?_)
        refine goes_ Tryz.func40 (by kernel_rfl) rfl #[] (by rfl) rfl rfl (by simp only [List.map_toArray, List.map_nil]) ?_
        with_reducible refine (bounds4 _ (HGW.out _ (HPS3.out.bel.drew))).mono ?_
        rintro e w4 ⟨m, Inv, rfl, hR, hI, hb4⟩
        refine ⟨_, rfl, ?_⟩
        refine hK.out _ _ ((hb4.cell (p := ⟨g, 4, none⟩) hgl).trans hc4) (fun hHeld => ?_)
        clear hK K
        refine norm_ (a' := ?_) ?_ ?_
        rotate_left
        · show Act.put _ (some 102) _ = _
          simp only [Act.put, List.setIfInBounds_toArray, List.set_cons_zero, List.set_cons_succ, i64_w, i32_w]
          rfl
        refine last_ (i := 5) (N := some 103) #[true, true, true, true, true, true, false] rfl rfl (by kernel_rfl) (by decide) (fun K hK => ?_)
        have HP4 := Lib.hid ((HPS3.out.below ((Below.refl _ _).drew)).below hb4)
        refine goesV_ Tryz.func34 (by kernel_rfl) rfl #[.string x4, .agg #[.int .u64 (loK 4 : Nat), .int .u64 (hiK 4 : Nat), .map m]] #[.pointer (some ⟨ge, 0, none⟩)] #[.string x4, .agg #[.int .u64 (loK 4 : Nat), .int .u64 (hiK 4 : Nat), .map m], .pointer (some ⟨ge, 0, none⟩)] rfl (by rfl) (by rfl) rfl rfl (by simp only [List.map_toArray, List.map_cons, List.map_nil]; rfl) ?_
        with_reducible refine (HC4.out m Inv hR _ hI HP4.out.lt e3 ((((true && r0.isSome) && r1.isSome) && r2.isSome) && r3.isSome) HE3.out HP4.out.err HP4.out.free).mono ?_
        rintro e w5 ⟨n, x, rfl, hl5, he5, hn5⟩
        refine ⟨_, rfl, ?_⟩
        have HP5 := Lib.hid (HP4.out.left hl5)
        have HE5 := Lib.hid he5
        have HN5 := Lib.hid hn5
        clear hl5 he5 hn5
        refine hK.out _ _ ?_
        clear hK K
        refine norm_ (a' := ?_) ?_ ?_
        rotate_left
        · show Act.put _ (some 103) _ = _
          simp only [Act.put, List.setIfInBounds_toArray, List.set_cons_zero, List.set_cons_succ, i64_w, i32_w]
          rfl
        refine pure_ (i := 6) (N := some 17) (v := ?_) (a' := ?_) #[true, true, true, true, true, true, true] rfl rfl (by kernel_rfl) (fun _ _ _ h => h) (Or.inl ⟨by rfl, ?_⟩) ?_ ?_
        rotate_left
        · intro w'
          go_simp
          with_reducible rfl
        rotate_left
        · simp only [Act.put, List.setIfInBounds_toArray, List.set_cons_zero, List.set_cons_succ, i64_w, i32_w]
          rfl
        refine done_ (by kernel_rfl) ?_
        go_wp2_with fail
        go_meet
        exact ⟨n, x, rfl, HP5, HE5, HN5⟩
      case rest =>
      obtain ⟨n4, e4, rfl, HPS4, HE4, HN4⟩ := hcut
      obtain ⟨wk4, rfl⟩ : ∃ wk : World, wk = wc := ⟨_, rfl⟩
      clear HPS3 HE3 HC4 HX4
      go_upto_region 27 with fail
      go_cut [18] (fun v wc => ∃ (n : Int) (x : Value), v = .int .u64 n ∧ Hid (PSt w wc g c ge l x) ∧ Hid (ErrSt x ((((((true && r0.isSome) && r1.isSome) && r2.isSome) && r3.isSome) && r4.isSome) && r5.isSome)) ∧ Hid ((((((true && r0.isSome) && r1.isSome) && r2.isSome) && r3.isSome) && r4.isSome) = true → ∀ b, r5 = some b → n = b))
      case first =>
        have hc5 : wk4.cell? ⟨g, 5, none⟩ = some (.string x5) := HPS4.out.txt.at_ 5 _ HX5.out
        have hgl : g < wk4.heap.size := HPS4.out.txt.lt
        refine start_ (n := 7) (S := fun w' => w'.cell? ⟨g, 5, none⟩ = some (.string x5)) (ds := [5]) #[false, false, false, false, false, false, false] (by kernel_rfl) rfl rfl (hc5) (fun hHeld => ?_)
        refine pure_ (i := 0) (N := some 104) (v := ?_) (a' := ?_) #[true, false, false, false, false, false, false] rfl rfl (by kernel_rfl) (fun _ _ _ h => h) (Or.inl ⟨by rfl, ?_⟩) ?_ ?_
        rotate_left
        · intro w'
          go_simp
          with_reducible rfl
        rotate_left
        · simp only [Act.put, List.setIfInBounds_toArray, List.set_cons_zero, List.set_cons_succ, i64_w, i32_w]
          rfl
        refine pure_ (i := 1) (N := some 105) (v := ?_) (a' := ?_) #[true, true, false, false, false, false, false] rfl rfl (by kernel_rfl) (fun _ _ _ h => h) (Or.inl ⟨by rfl, ?_⟩) ?_ ?_
        rotate_left
        · intro w'
          go_simp
          with_reducible rfl
        rotate_left
        · simp only [Act.put, List.setIfInBounds_toArray, List.set_cons_zero, List.set_cons_succ, i64_w, i32_w]
          rfl
        refine pure_ (i := 2) (N := some 106) (v := ?_) (a' := ?_) #[true, true, true, false, false, false, false] rfl rfl (by kernel_rfl) (fun _ _ _ h => h) (Or.inl ⟨by rfl, ?_⟩) ?_ ?_
        rotate_left
        · intro w'
          go_simp
          with_reducible rfl
        rotate_left
        · simp only [Act.put, List.setIfInBounds_toArray, List.set_cons_zero, List.set_cons_succ, i64_w, i32_w]
          rfl
        refine take_ (i := 3) (N := some 107) (v := ?_) (a' := ?_) #[true, true, true, true, false, false, false] rfl rfl (by kernel_rfl) (fun _ _ _ h => h) (Or.inl ⟨by rfl, ?_⟩) hHeld ?_ ?_
        rotate_left
        · intro w' s0
          go_simp
          with_reducible rfl
        rotate_left
        · simp only [Act.put, List.setIfInBounds_toArray, List.set_cons_zero, List.set_cons_succ, i64_w, i32_w]
          rfl
        refine one_ (i := 4) (N := some 108) #[true, true, true, true, true, false, false] rfl rfl (by kernel_rfl) (by decide) (fun K hK => ?_)
        refine goes_ Tryz.func41 (by kernel_rfl) rfl #[] (by rfl) rfl rfl (by simp only [List.map_toArray, List.map_nil]) ?_
        with_reducible refine (bounds5 _ (HGW.out _ (HPS4.out.bel.drew))).mono ?_
        rintro e w4 ⟨m, Inv, rfl, hR, hI, hb4⟩
        refine ⟨_, rfl, ?_⟩
        refine hK.out _ _ ((hb4.cell (p := ⟨g, 5, none⟩) hgl).trans hc5) (fun hHeld => ?_)
        clear hK K
        refine norm_ (a' := ?_) ?_ ?_
        rotate_left
        · show Act.put _ (some 108) _ = _
          simp only [Act.put, List.setIfInBounds_toArray, List.set_cons_zero, List.set_cons_succ, i64_w, i32_w]
          rfl
        refine last_ (i := 5) (N := some 109) #[true, true, true, true, true, true, false] rfl rfl (by kernel_rfl) (by decide) (fun K hK => ?_)
        have HP4 := Lib.hid ((HPS4.out.below ((Below.refl _ _).drew)).below hb4)
        refine goesV_ Tryz.func34 (by kernel_rfl) rfl #[.string x5, .agg #[.int .u64 (loK 5 : Nat), .int .u64 (hiK 5 : Nat), .map m]] #[.pointer (some ⟨ge, 0, none⟩)] #[.string x5, .agg #[.int .u64 (loK 5 : Nat), .int .u64 (hiK 5 : Nat), .map m], .pointer (some ⟨ge, 0, none⟩)] rfl (by rfl) (by rfl) rfl rfl (by simp only [List.map_toArray, List.map_cons, List.map_nil]; rfl) ?_
        with_reducible refine (HC5.out m Inv hR _ hI HP4.out.lt e4 (((((true && r0.isSome) && r1.isSome) && r2.isSome) && r3.isSome) && r4.isSome) HE4.out HP4.out.err HP4.out.free).mono ?_
        rintro e w5 ⟨n, x, rfl, hl5, he5, hn5⟩
        refine ⟨_, rfl, ?_⟩
        have HP5 := Lib.hid (HP4.out.left hl5)
        have HE5 := Lib.hid he5
        have HN5 := Lib.hid hn5
        clear hl5 he5 hn5
        refine hK.out _ _ ?_
        clear hK K
        refine norm_ (a' := ?_) ?_ ?_
        rotate_left
        · show Act.put _ (some 109) _ = _
          simp only [Act.put, List.setIfInBounds_toArray, List.set_cons_zero, List.set_cons_succ, i64_w, i32_w]
          rfl
        refine pure_ (i := 6) (N := some 18) (v := ?_) (a' := ?_) #[true, true, true, true, true, true, true] rfl rfl (by kernel_rfl) (fun _ _ _ h => h) (Or.inl ⟨by rfl, ?_⟩) ?_ ?_
        rotate_left
        · intro w'
          go_simp
          with_reducible rfl
        rotate_left
        · simp only [Act.put, List.setIfInBounds_toArray, List.set_cons_zero, List.set_cons_succ, i64_w, i32_w]
          rfl
        refine done_ (by kernel_rfl) ?_
        go_wp2_with fail
        go_meet
        exact ⟨n, x, rfl, HP5, HE5, HN5⟩
      case rest =>
      obtain ⟨n5, e5, rfl, HPS5, HE5, HN5⟩ := hcut
      obtain ⟨wk5, rfl⟩ : ∃ wk : World, wk = wc := ⟨_, rfl⟩
      clear HPS4 HE4 HC5 HX5
      have hcE := HPS5.out.err
      have hB6 := Lib.hid HPS5.out.bel
      clear HPS5
      cases hok : (((((true && r0.isSome) && r1.isSome) && r2.isSome) && r3.isSome) && r4.isSome && r5.isSome) with
      | true =>
        have hk : r0.isSome = true ∧ r1.isSome = true ∧ r2.isSome = true ∧ r3.isSome = true ∧ r4.isSome = true ∧ r5.isSome = true := by
          simpa [Bool.and_eq_true, and_assoc] using hok
        obtain ⟨k0, k1, k2, k3, k4, k5⟩ := hk
        obtain ⟨b0, rfl⟩ := Option.isSome_iff_exists.1 k0
        obtain ⟨b1, rfl⟩ := Option.isSome_iff_exists.1 k1
        obtain ⟨b2, rfl⟩ := Option.isSome_iff_exists.1 k2
        obtain ⟨b3, rfl⟩ := Option.isSome_iff_exists.1 k3
        obtain ⟨b4, rfl⟩ := Option.isSome_iff_exists.1 k4
        obtain ⟨b5, rfl⟩ := Option.isSome_iff_exists.1 k5
        obtain rfl := HN0.out rfl b0 rfl
        obtain rfl := HN1.out rfl b1 rfl
        obtain rfl := HN2.out rfl b2 rfl
        obtain rfl := HN3.out rfl b3 rfl
        obtain rfl := HN4.out rfl b4 rfl
        obtain rfl := HN5.out rfl b5 rfl
        have he5 := errSt_ok HE5.out rfl
        subst he5
        have HX6 : Hid (parseS s o = some [b0, b1, b2, b3, b4, b5]) := Lib.hid (by rw [HX.out]; exact HS.out b0 b1 b2 b3 b4 b5 rfl rfl rfl rfl rfl rfl)
        clear hok k0 k1 k2 k3 k4 k5 HN HN0 HN1 HN2 HN3 HN4 HN5 HS HE5
        go_wp2_with fail
        go_ret2
        rw [HX6.out]
        exact ⟨⟨wk5.heap.size, rfl, heap_alloc_new wk5 _⟩, hB6.out.alloc hB6.out.size _⟩
      | false =>
        obtain ⟨t, x, rfl⟩ := errSt_bad HE5.out (by simpa [Bool.and_assoc] using hok)
        have HX6 : Hid (parseS s o = none) := Lib.hid (by rw [HX.out]; exact HN.out hok)
        clear hok
        go_wp2_with fail
        go_quiet (fail)
        go_wp2_with fail
        go_ret2
        rw [HX6.out]
        exact ⟨⟨t, x, rfl⟩, below_of_le hB6.out (below_drewN _ nq)⟩
end Go.Proofs.YtikgnpachlgakaaGreatDoor.Cron

namespace Go.Proofs.YtikgnpachlgakaaGreatDoor.Cron
open Go Go.RowKit Go.Proofs.YtikgnpachlgakaaGreatDoor.Text Go.Proofs.YtikgnpachlgakaaGreatDoor.Bits
set_option linter.unusedVariables false
set_option linter.unusedSimpArgs false

def maskK (k : Nat) : Nat := if k = 0 then 3 else if k = 1 then 4 else if k = 2 then 8 else if k = 3 then 16 else if k = 4 then 32 else 192
/-- the options take a field of a kind -/
def takeB (o k : Nat) : Bool := !decide (o &&& maskK k = 0)

theorem neq_zero (x : Nat) : ((x : Int) != 0) = !decide (x = 0) := by
  by_cases h : x = 0
  · subst h; rfl
  · rw [decide_eq_false h]
    simpa using h

theorem takes_any (o : Nat) (ho : o < 512) (k : Nat) (hk : k < 6) (w : World) :
    Calls Tryz.prog 77 #[.int .i64 o, .int .i64 k] w fun e w' => e = .returned (.bool (takeB o k)) ∧ Below w.heap.size w w' := by
  have hk6 : k = 0 ∨ k = 1 ∨ k = 2 ∨ k = 3 ∨ k = 4 ∨ k = 5 := by omega
  rcases hk6 with rfl | rfl | rfl | rfl | rfl | rfl
  · have hand : bits .and .i64 (o : Int) 3 = ((o &&& 3 : Nat) : Int) := and_i64 (b := 3) (by omega) (by decide)
    have e : (((o &&& 3 : Nat) : Int) != 0) = takeB o 0 := neq_zero _
    have E := Lib.hid e
    clear e
    go_enter Tryz.func77, Tryz.ntmps77
    go_wp2_with fail
    go_ret
    refine ⟨?_, (Below.refl _ _).alloc (Nat.le_refl _) _⟩
    simp [hand, E.out]
  · have hand : bits .and .i64 (o : Int) 4 = ((o &&& 4 : Nat) : Int) := and_i64 (b := 4) (by omega) (by decide)
    have e : (((o &&& 4 : Nat) : Int) != 0) = takeB o 1 := neq_zero _
    have E := Lib.hid e
    clear e
    go_enter Tryz.func77, Tryz.ntmps77
    go_wp2_with fail
    go_ret
    refine ⟨?_, (Below.refl _ _).alloc (Nat.le_refl _) _⟩
    simp [hand, E.out]
  · have hand : bits .and .i64 (o : Int) 8 = ((o &&& 8 : Nat) : Int) := and_i64 (b := 8) (by omega) (by decide)
    have e : (((o &&& 8 : Nat) : Int) != 0) = takeB o 2 := neq_zero _
    have E := Lib.hid e
    clear e
    go_enter Tryz.func77, Tryz.ntmps77
    go_wp2_with fail
    go_ret
    refine ⟨?_, (Below.refl _ _).alloc (Nat.le_refl _) _⟩
    simp [hand, E.out]
  · have hand : bits .and .i64 (o : Int) 16 = ((o &&& 16 : Nat) : Int) := and_i64 (b := 16) (by omega) (by decide)
    have e : (((o &&& 16 : Nat) : Int) != 0) = takeB o 3 := neq_zero _
    have E := Lib.hid e
    clear e
    go_enter Tryz.func77, Tryz.ntmps77
    go_wp2_with fail
    go_ret
    refine ⟨?_, (Below.refl _ _).alloc (Nat.le_refl _) _⟩
    simp [hand, E.out]
  · have hand : bits .and .i64 (o : Int) 32 = ((o &&& 32 : Nat) : Int) := and_i64 (b := 32) (by omega) (by decide)
    have e : (((o &&& 32 : Nat) : Int) != 0) = takeB o 4 := neq_zero _
    have E := Lib.hid e
    clear e
    go_enter Tryz.func77, Tryz.ntmps77
    go_wp2_with fail
    go_ret
    refine ⟨?_, (Below.refl _ _).alloc (Nat.le_refl _) _⟩
    simp [hand, E.out]
  · have hand : bits .and .i64 (o : Int) 192 = ((o &&& 192 : Nat) : Int) := and_i64 (b := 192) (by omega) (by decide)
    have e : (((o &&& 192 : Nat) : Int) != 0) = takeB o 5 := neq_zero _
    have E := Lib.hid e
    clear e
    go_enter Tryz.func77, Tryz.ntmps77
    go_wp2_with fail
    go_ret
    refine ⟨?_, (Below.refl _ _).alloc (Nat.le_refl _) _⟩
    simp [hand, E.out]

/-- how many fields are taken, of the first k -/
def takenC (o : Nat) : Nat → Nat
  | 0 => 0
  | k + 1 => takenC o k + (if takeB o k then 1 else 0)

theorem takenC_le (o : Nat) : ∀ k, takenC o k ≤ k
  | 0 => Nat.le_refl _
  | k + 1 => by
    have := takenC_le o k
    unfold takenC
    split <;> omega

end Go.Proofs.YtikgnpachlgakaaGreatDoor.Cron

namespace Go.Proofs.YtikgnpachlgakaaGreatDoor.Cron
open Go Go.RowKit Go.Proofs.YtikgnpachlgakaaGreatDoor.Text Go.Proofs.YtikgnpachlgakaaGreatDoor.Bits
set_option linter.unusedVariables false
set_option linter.unusedSimpArgs false

def fillB : List Bool → List ByteArray → List ByteArray → List ByteArray
  | b :: bs, d :: ds, fs => if b = true then (match fs with | f :: fs => f :: fillB bs ds fs | [] => d :: fillB bs ds []) else d :: fillB bs ds fs
  | _, _, _ => []

theorem fillL_B (q : Nat) : ∀ (ps : List Nat) (ds fs : List ByteArray), fillL q ps ds fs = fillB (ps.map fun p => decide (0 < q &&& p)) ds fs
  | [], _, _ => by unfold fillL fillB; rfl
  | p :: ps, [], _ => by unfold fillL fillB; rfl
  | p :: ps, d :: ds, fs => by
    unfold fillL
    rw [List.map_cons]
    unfold fillB
    by_cases h : 0 < q &&& p
    · rw [if_pos h, if_pos (decide_eq_true h)]
      cases fs with
      | nil => simp only [fillL_B q ps ds []]
      | cons f fs => simp only [fillL_B q ps ds fs]
    · rw [if_neg h, if_neg (by rw [decide_eq_false h]; decide), fillL_B q ps ds fs]

def cnt (bs : List Bool) : Nat := (bs.filter id).length

theorem cnt_cons (b : Bool) (bs : List Bool) : cnt (b :: bs) = (if b = true then 1 else 0) + cnt bs := by
  unfold cnt
  cases b <;> simp [Nat.add_comm]

theorem fillB_len : ∀ (bs : List Bool) (ds fs : List ByteArray), bs.length = ds.length → (fillB bs ds fs).length = bs.length
  | [], [], _, _ => rfl
  | b :: bs, d :: ds, fs, h => by
    have h' : bs.length = ds.length := by simpa using h
    unfold fillB
    cases b
    · simp [fillB_len bs ds fs h']
    · cases fs with
      | nil => simp [fillB_len bs ds [] h']
      | cons f fs => simp [fillB_len bs ds fs h']

theorem fillB_at : ∀ (bs : List Bool) (ds fs : List ByteArray) (i : Nat) (h : i < bs.length), bs.length = ds.length → cnt bs ≤ fs.length →
    (fillB bs ds fs)[i]? = if bs[i] = true then fs[cnt (bs.take i)]? else ds[i]?
  | b :: bs, d :: ds, fs, i, h, hl, hc => by
    have hl' : bs.length = ds.length := by simpa using hl
    rw [cnt_cons] at hc
    unfold fillB
    cases b with
    | true =>
      rw [if_pos rfl] at hc ⊢
      cases fs with
      | nil => exact absurd hc (by simp; try omega)
      | cons f fs =>
        cases i with
        | zero => simp [cnt]
        | succ i =>
          have hi : i < bs.length := by simpa using h
          have ih := fillB_at bs ds fs i hi hl' (by simp at hc; omega)
          simp only [List.getElem?_cons_succ, List.getElem_cons_succ, List.take_succ_cons, cnt_cons, if_true]
          rw [ih, Nat.add_comm 1, List.getElem?_cons_succ]
    | false =>
      rw [if_neg (by decide)] at hc ⊢
      cases i with
      | zero => simp
      | succ i =>
        have hi : i < bs.length := by simpa using h
        have ih := fillB_at bs ds fs i hi hl' (by omega)
        simp only [List.getElem?_cons_succ, List.getElem_cons_succ, List.take_succ_cons, cnt_cons]
        rw [ih]
        simp

theorem fillB_last (d x : ByteArray) : ∀ (bs : List Bool) (ds fs : List ByteArray), bs.length = ds.length → cnt bs = fs.length → fillB (bs ++ [true]) (ds ++ [d]) (fs ++ [x]) = fillB bs ds fs ++ [x]
  | [], [], fs, _, h => by
    have : fs = [] := List.length_eq_zero_iff.1 (by simpa [cnt] using h.symm)
    subst this
    rfl
  | b :: bs, e :: ds, fs, hl, h => by
    have hl' : bs.length = ds.length := by simpa using hl
    rw [cnt_cons] at h
    simp only [List.cons_append]
    unfold fillB
    cases b with
    | true =>
      rw [if_pos rfl] at h
      rw [if_pos rfl, if_pos rfl]
      cases fs with
      | nil => exact absurd h (by simp; try omega)
      | cons f fs =>
        simp only [List.cons_append]
        rw [fillB_last d x bs ds fs hl' (by simp at h; omega)]
    | false =>
      rw [if_neg (by decide)] at h
      rw [if_neg (by decide), if_neg (by decide), fillB_last d x bs ds fs hl' (by omega)]
      rfl

theorem fillB_off (d : ByteArray) : ∀ (bs : List Bool) (ds fs : List ByteArray), bs.length = ds.length → cnt bs ≤ fs.length → fillB (bs ++ [false]) (ds ++ [d]) fs = fillB bs ds fs ++ [d]
  | [], [], fs, _, h => rfl
  | b :: bs, e :: ds, fs, hl, h => by
    have hl' : bs.length = ds.length := by simpa using hl
    rw [cnt_cons] at h
    simp only [List.cons_append]
    unfold fillB
    cases b with
    | true =>
      rw [if_pos rfl] at h
      rw [if_pos rfl, if_pos rfl]
      cases fs with
      | nil => exact absurd h (by simp; try omega)
      | cons f fs =>
        simp only
        rw [fillB_off d bs ds fs hl' (by simp at h; omega)]
        rfl
    | false =>
      rw [if_neg (by decide)] at h
      rw [if_neg (by decide), if_neg (by decide), fillB_off d bs ds fs hl' (by omega)]
      rfl

/-- the field that may be left away, 6 if there is none -/
def missN (o : Nat) : Nat := if 0 < o &&& 2 then 0 else if 0 < o &&& 128 then 5 else 6

/-- the fields that are read from the text, but for one -/
def takesL (o m : Nat) : List Bool := [takeB o 0 && !decide (0 = m), takeB o 1 && !decide (1 = m), takeB o 2 && !decide (2 = m), takeB o 3 && !decide (3 = m), takeB o 4 && !decide (4 = m), takeB o 5 && !decide (5 = m)]

/-- the reference's filling -/
def fillS (fs : List ByteArray) (o : Nat) : Option (List ByteArray) :=
  if fs.length = takenC o 6 then some (fillB (takesL o 6) defaultsL fs)
  else if missN o = 6 ∨ fs.length + 1 ≠ takenC o 6 then none
  else some (fillB (takesL o (missN o)) defaultsL fs)

def optsFit (o : Nat) : Bool :=
  (0 < o &&& 128 && 0 < o &&& 2) || (decide (takenN (optAll o) placesL = takenC o 6) && decide ((placesL.map fun p => decide (0 < optAll o &&& p)) = takesL o 6) && decide (cnt (takesL o 6) = takenC o 6) &&
    decide (nOpt o = if missN o = 6 then 0 else 1) && decide (missN o = 0 ∨ missN o = 5 ∨ missN o = 6) && decide (missN o = 0 → takeB o 0 = true) && decide (missN o = 5 → takeB o 5 = true ∧ 0 < optAll o &&& 128) && decide (missN o = 0 → ¬ 0 < optAll o &&& 128) &&
    decide (missN o ≠ 6 → 1 ≤ takenC o 6))

set_option maxRecDepth 100000 in
theorem opts_all : ∀ o : Fin 512, optsFit o.val = true := by decide +kernel

theorem norm_is (fs : List ByteArray) (o : Nat) (ho : o < 512) (h2 : ¬ (0 < o &&& 128 ∧ 0 < o &&& 2)) : normF fs o = fillS fs o := by
  have hfit := opts_all ⟨o, ho⟩
  simp only [optsFit, Bool.or_eq_true, Bool.and_eq_true, decide_eq_true_eq] at hfit
  rcases hfit with hfit | hfit
  · exact absurd hfit h2
  obtain ⟨⟨⟨⟨⟨⟨⟨⟨a1, a2⟩, a3⟩, a4⟩, a5⟩, a6⟩, a7⟩, a8⟩, a9⟩ := hfit
  unfold normF fillS
  rw [a1, a4]
  by_cases hm : missN o = 6
  · rw [if_pos hm, if_neg (show ¬ (1 < 0) by omega)]
    by_cases hl : fs.length = takenC o 6
    · rw [if_pos hl, if_neg (show ¬ (fs.length < takenC o 6 - 0 ∨ takenC o 6 < fs.length) by omega), if_neg (show ¬ (0 < 0 ∧ fs.length = takenC o 6 - 0) by omega), fillL_B, a2]
    · rw [if_neg hl, if_pos (show missN o = 6 ∨ fs.length + 1 ≠ takenC o 6 from .inl hm), if_pos (show fs.length < takenC o 6 - 0 ∨ takenC o 6 < fs.length by omega)]
  · have h1 := a9 hm
    rw [if_neg hm, if_neg (show ¬ (1 < 1) by omega)]
    by_cases hl : fs.length = takenC o 6
    · rw [if_pos hl, if_neg (show ¬ (fs.length < takenC o 6 - 1 ∨ takenC o 6 < fs.length) by omega), if_neg (show ¬ (0 < 1 ∧ fs.length = takenC o 6 - 1) by omega), fillL_B, a2]
    · rw [if_neg hl]
      by_cases hl1 : fs.length + 1 = takenC o 6
      · rw [if_neg (show ¬ (fs.length < takenC o 6 - 1 ∨ takenC o 6 < fs.length) by omega), if_neg (show ¬ (missN o = 6 ∨ fs.length + 1 ≠ takenC o 6) from fun h => by rcases h with h | h <;> omega), if_pos (show 0 < 1 ∧ fs.length = takenC o 6 - 1 from ⟨by omega, by omega⟩)]
        congr 1
        rcases a5 with h0 | h5 | h6
        · rw [if_neg (a8 h0), fillL_B, a2, h0]
          have ht := a6 h0
          unfold takesL
          rw [ht]
          rfl
        · rw [if_pos (a7 h5).2, fillL_B, a2, h5]
          have ht := (a7 h5).1
          have hc : cnt (takesL o 6) = cnt [takeB o 0, takeB o 1, takeB o 2, takeB o 3, takeB o 4] + 1 := by
            unfold takesL
            rw [ht]
            generalize takeB o 0 = b0
            generalize takeB o 1 = b1
            generalize takeB o 2 = b2
            generalize takeB o 3 = b3
            generalize takeB o 4 = b4
            cases b0 <;> cases b1 <;> cases b2 <;> cases b3 <;> cases b4 <;> rfl
          have e1 : takesL o 6 = [takeB o 0, takeB o 1, takeB o 2, takeB o 3, takeB o 4] ++ [true] := by
            unfold takesL
            rw [ht]
            simp
          have e2 : takesL o 5 = [takeB o 0, takeB o 1, takeB o 2, takeB o 3, takeB o 4] ++ [false] := by
            unfold takesL
            rw [ht]
            simp
          have e3 : defaultsL = [⟨#[48]⟩, ⟨#[48]⟩, ⟨#[48]⟩, ⟨#[42]⟩, ⟨#[42]⟩] ++ [⟨#[42]⟩] := rfl
          rw [e1, e2, e3, fillB_last _ _ _ _ _ rfl (by omega), fillB_off _ _ _ _ rfl (by omega)]
        · exact absurd h6 hm
      · rw [if_pos (show fs.length < takenC o 6 - 1 ∨ takenC o 6 < fs.length by omega), if_pos (show missN o = 6 ∨ fs.length + 1 ≠ takenC o 6 from .inr hl1)]
end Go.Proofs.YtikgnpachlgakaaGreatDoor.Cron
