/- Lemmas and walks on the way to the law, merged by wip/tools/pack.py: NextU, RowArgs, EitherS, Split, Base, SplitCalls. Conditions: none. -/
import Derived.Test.YtmecbmgfacpecaaGreatDoorGrE
import Derived.Test.YtmecbmgfacpecaaGreatDoorPrA
import Derived.Test.YtmecbmgfacpecaaGreatDoorRows
import Derived.WalkKit
import Derived.ProofKit
import Derived.OpenShut
import Derived.Below
import Derived.Carry
import Derived.Deep.Slices
import Derived.Deep.Fields
import Derived.ChangeSame
import Derived.Test.YtmecbmgfacpecaaGreatDoorGrA
import Derived.Test.YtmecbmgfacpecaaGreatDoorPrSplitT
import Derived.Test.YtmecbmgfacpecaaGreatDoorProg
import Derived.OwnWalk
import Derived.Lib.Hide
import Derived.WalkSmall
import Derived.WalkLawsBesides
import Derived.WalkSpells
namespace Go.Proofs.YtmecbmgfacpecaaGreatDoor.CronN
open Go Go.RowKit Go.Proofs.YtmecbmgfacpecaaGreatDoorW.PrintWords Go.Proofs.YtmecbmgfacpecaaGreatDoorW.PrintLast Go.Proofs.YtmecbmgfacpecaaGreatDoor.Cal Go.Proofs.YtmecbmgfacpecaaGreatDoor.Pr
set_option linter.unusedVariables false
set_option linter.unusedSimpArgs false
theorem exists_first (P : Nat → Prop) : ∀ n, P n → ∃ n, P n ∧ ∀ m, m < n → ¬ P m := by
 intro n
 induction n using Nat.strongRecOn with
 | _ n ih =>
  intro hn
  by_cases h : ∃ m, m < n ∧ P m
  ·obtain ⟨m, hm, hp⟩ := h
   exact ih m hm hp
  ·exact ⟨n, hn, fun m hm hp => h ⟨m, hm, hp⟩⟩
theorem least_exists (S : Sets) (f lim : Int) : ∃ r, Least S f lim r := by
 by_cases h : ∃ x, f ≤ x ∧ yearL x ≤ lim ∧ Fits S x
 ·obtain ⟨x, h1, h2, h3⟩ := h
  obtain ⟨n, ⟨hn, hy⟩, hm⟩ := exists_first (fun n : Nat => Fits S (f + n) ∧ yearL (f + n) ≤ lim) (x - f).toNat (by rw [show f + ((x - f).toNat : Int) = x by omega]; exact ⟨h3, h2⟩)
  refine ⟨some (f + n), by omega, hn, fun z z1 z2 hz => hm (z - f).toNat (by omega) ?_, hy⟩
  rw [show f + ((z - f).toNat : Int) = z by omega]
  exact ⟨hz, by have := year_mono (a := z) (b := f + n) (by omega); omega⟩
 ·exact ⟨none, fun x h1 h2 h3 => h ⟨x, h1, h2, h3⟩⟩
def goodB (sec nano : Int) : Bool := decide (-62135596800 ≤ sec ∧ sec ≤ 253402300799 ∧ 0 ≤ nano ∧ nano < 1000000000)
theorem goodB_iff {sec nano : Int} : goodB sec nano = true ↔ (-62135596800 ≤ sec ∧ sec ≤ 253402300799 ∧ 0 ≤ nano ∧ nano < 1000000000) := by unfold goodB; exact decide_eq_true_iff
theorem good_f (sec nano : Int) : spec_CronGood.f sec nano = some (goodB sec nano) := by
 unfold spec_CronGood.f goodB
 by_cases h1 : -62135596800 ≤ sec <;> by_cases h2 : sec ≤ 253402300799 <;> by_cases h3 : 0 ≤ nano <;> simp [h1, h2, h3]
theorem good_any (sec nano : Int) (w : World) : Calls Tryz.prog 20 #[.agg #[.int .i64 sec, .int .i64 nano]] w fun e w' => e = .returned (.bool (goodB sec nano)) ∧ Below w.heap.size w w' :=
 spec_CronGood.calls sec nano _ w (good_f sec nano)
theorem nextUtc_any (d : Int) (S : Sets) (hS : S.ok) (sec nano : Int) (hg : goodB sec nano = true) (r : Option Int) (hr : Least S (sec + 1) (yearL (sec + 1) + 5) r) (w : World) :
  Calls Tryz.prog 27 #[.agg (setsCells d S), .agg #[.int .i64 sec, .int .i64 nano], utcZone] w fun e w' => e = .returned (.tuple #[.agg (ansI 0 r), .bool r.isSome]) ∧ Below w.heap.size w w' := by
 obtain ⟨g1, g2, g3, g4⟩ := goodB_iff.1 hg
 have := implNext_any (.slice none 0 0) (.slice none 0 0) (.slice none 0 0) (.slice none 0 0) 0 zone_utc d S hS sec nano g1 g2 g3 g4 (by omega) (by omega) (by decide) (.inl (by omega)) w
 refine this.mono ?_
 rintro e w' ⟨r', hr', rfl, hb⟩
 rw [Int.add_zero] at hr'
 rw [least_unique hr' hr]
 exact ⟨rfl, hb⟩
section
variable {P : Program} {ops : Array Oper} {rest : List Oper} {o : Oper} {a : Act} {w : World} {Q : Exit → Act → World → Prop}
theorem wpList_load_rowG (hw : Region.wanted o (yielded ops a.tmps) = true) (ty : TypeId) (x : Operand) (ho : o.op = .load ty x) (g : Nat) (hx : a.eval x = .pointer (some ⟨g, 0, none⟩)) (t : TypeId) (cs : Array Value) (fr : Nat × Nat) (d : TypeDesc) (hg : w.heap[g]? = some (.cells cs t fr))
  (hu : P.underlying ty = some d) (hd : (match d with | .struct _ | .array _ _ => true | _ => false) = true) (hi : (P.info? ty).map (·.size) = some cs.size)
  (h : wpList P ops Q rest (a.put o.dst (.agg cs)) w) : wpList P ops Q (o :: rest) a w := by
 refine wpList_step fun K hK => ?_
 rw [if_pos hw]
 exact wp_load_row ty x ho g hx t cs fr d hg hu hd hi (hK _ _ h)
end
end Go.Proofs.YtmecbmgfacpecaaGreatDoor.CronN
namespace Go.Proofs.YtmecbmgfacpecaaGreatDoor.RowArgs
open Go Go.Proofs.YtmecbmgfacpecaaGreatDoor Go.ChangeShapes Go.WideShapes Go.ChangeAt Go.RowKit Go.Deep Go.Proofs.YtmecbmgfacpecaaGreatDoor.Cal Go.Proofs.YtmecbmgfacpecaaGreatDoor.CronN
set_option linter.unusedVariables false
theorem own : ownKnob Tryz.prog.godebug = none := by kernel_rfl
theorem laidOut : laidOutB Tryz.prog = true := by kernel_rfl
theorem cells_inst : Tryz.prog.cellsOf 50 = 2 := by kernel_rfl
theorem okWide_size {P : Program} {w : World} {r : Reach} {base : Nat} {t : TypeId} {v : Value} {fs : Array Field} {n : Nat} (ht : P.underlying t = some (.struct fs)) (hC : P.cellsOf t = n) (h : Value.okWide P w r base t v) : ∃ cs : Array Value, v = .agg cs ∧ cs.size = n := by
 obtain ⟨cs, h1, h2⟩ := okWide_struct ht h
 exact ⟨cs, h1, h2.trans hC⟩
theorem one_field {P : Program} {fs : Array Field} (hone : oneCellFields P fs = true) (cs : List Value) (j : Nat) (f : Field) (hj : fs[j]? = some f) (v : Value) (hv : cs[j]? = some v) : (cs.drop f.offset).take (P.cellsOf f.type) = [v] := by
 obtain ⟨ho, hk⟩ := hone_of hone j f hj
 rw [ho, hk]
 have hl : j < cs.length := (List.getElem?_eq_some_iff.1 hv).1
 rw [List.drop_eq_getElem_cons hl]
 simp [(List.getElem?_eq_some_iff.1 hv).2]
theorem at_field {H : Type} {enc : TypeId × Value → H} {P : Program} {w : World} {base n : Nat} {spare : Nat → Bool} {held : Bool} {t : TypeId} {fs : Array Field} {cs : List Value} {xs : List (DataW H × List MemPlace)} (hs : P.underlying t = some (.struct fs)) (hone : oneCellFields P fs = true)
  (hg : ∀ (j : Nat) (f : Field), fs[j]? = some f → DataW.trod enc P w base spare held n f.type ((cs.drop f.offset).take (P.cellsOf f.type)) = xs[j]?) (j : Nat) (f : Field) (v : Value) (hj : fs[j]? = some f) (hv : cs[j]? = some v) :
  DataW.trod enc P w base spare held n f.type [v] = xs[j]? := by
 have := hg j f hj
 rw [one_field hone cs j f hj v hv] at this
 exact this
set_option maxRecDepth 100000 in
theorem open_inst {H : Type} {enc : TypeId × Value → H} {w W : World} {spare : Nat → Bool} {held : Bool} {base b2 : Nat} {r : Reach} {v : Value} {d : DataW H} {p : List MemPlace} (hv : Value.okWide Tryz.prog W r b2 50 v)
  (h : DataW.Trod enc Tryz.prog w base spare held 50 v d p) : ∃ sec nano : Int, v = .agg #[.int .i64 sec, .int .i64 nano] := by
 obtain ⟨cs, rfl, hsz⟩ := okWide_size Tryz.underlying50 cells_inst hv
 obtain ⟨l⟩ := cs
 match l, hsz with
 | [c0, c1], _ =>
  obtain ⟨fuel, hf⟩ := h
  obtain ⟨xs, n, _, hx, _, hlen, hg⟩ := DataW.trod_struct Tryz.underlying50 hf
  have g0 := at_field Tryz.underlying50 (by kernel_rfl) hg 0 _ c0 rfl rfl
  have g1 := at_field Tryz.underlying50 (by kernel_rfl) hg 1 _ c1 rfl rfl
  match xs, hlen with
  | [y0, y1], _ =>
   obtain ⟨a0, e0, -⟩ := DataW.trod_int Tryz.underlying2 (g0.trans rfl)
   obtain ⟨a1, e1, -⟩ := DataW.trod_int Tryz.underlying3 (g1.trans rfl)
   simp only [List.cons.injEq, and_true] at e0 e1
   subst e0 e1
   exact ⟨a0, a1, rfl⟩
end Go.Proofs.YtmecbmgfacpecaaGreatDoor.RowArgs
namespace Go.Proofs.YtmecbmgfacpecaaGreatDoor.Cal
open Go
set_option linter.unusedVariables false
def allDow : Nat := 9223372036854775935
def allDom : Nat := 9223372041149743102
theorem allDow_in : ∀ k : Fin 7, inB allDow (k.val : Int) = true := by decide +kernel
theorem allDom_in : ∀ k : Fin 32, 1 ≤ k.val → inB allDom (k.val : Int) = true := by decide +kernel
theorem allDow_star : inB allDow 63 = true := by decide +kernel
theorem allDom_star : inB allDom 63 = true := by decide +kernel
def byDom (S : Sets) : Sets := { S with dow := allDow }
def byDow (S : Sets) : Sets := { S with dom := allDom }
theorem either_fits {S : Sets} (hd : inB S.dom 63 = false) (hw : inB S.dow 63 = false) (x : Int) : Fits S x ↔ Fits (byDom S) x ∨ Fits (byDow S) x := by
 have hv := (date_L x).1
 have hm := mdays_bd (yearL x) (monthL x)
 have e0 : dayB S x = (inB S.dom (mdayL x) || inB S.dow (wdL x)) := by
  unfold dayB
  rw [hd, hw]
  rfl
 have e1 : dayB (byDom S) x = inB S.dom (mdayL x) := by
  have := allDow_in ⟨(wdL x).toNat, by unfold wdL; omega⟩
  rw [show (((wdL x).toNat : Nat) : Int) = wdL x by unfold wdL; omega] at this
  unfold dayB
  show (if inB S.dom 63 || inB allDow 63 then inB S.dom (mdayL x) && inB allDow (wdL x) else _) = _
  rw [allDow_star, Bool.or_true, if_pos rfl, this, Bool.and_true]
 have e2 : dayB (byDow S) x = inB S.dow (wdL x) := by
  have := allDom_in ⟨(mdayL x).toNat, by have := hv.d1; have := hv.d2; omega⟩ (by show 1 ≤ (mdayL x).toNat; have := hv.d1; omega)
  rw [show (((mdayL x).toNat : Nat) : Int) = mdayL x by have := hv.d1; omega] at this
  unfold dayB
  show (if inB allDom 63 || inB S.dow 63 then inB allDom (mdayL x) && inB S.dow (wdL x) else _) = _
  rw [allDom_star, Bool.true_or, if_pos rfl, this, Bool.true_and]
 constructor
 ·rintro ⟨h1, h2, h3, h4, h5⟩
  rw [e0, Bool.or_eq_true] at h2
  rcases h2 with h2 | h2
  ·exact .inl ⟨h1, e1.trans h2, h3, h4, h5⟩
  ·exact .inr ⟨h1, e2.trans h2, h3, h4, h5⟩
 ·rintro (⟨h1, h2, h3, h4, h5⟩ | ⟨h1, h2, h3, h4, h5⟩)
  ·exact ⟨h1, by rw [e0, ← e1, h2]; rfl, h3, h4, h5⟩
  ·exact ⟨h1, by rw [e0, ← e2, h2, Bool.or_true], h3, h4, h5⟩
def minO : Option Int → Option Int → Option Int
 | none, r => r
 | some a, none => some a
 | some a, some b => if b < a then some b else some a
theorem least_either {S : Sets} (hd : inB S.dom 63 = false) (hw : inB S.dow 63 = false) {f lim : Int} : ∀ {r1 r2 : Option Int}, Least (byDom S) f lim r1 → Least (byDow S) f lim r2 → Least S f lim (minO r1 r2)
 | none, none, h1, h2 => fun x hx hy hf => by
  rcases (either_fits hd hw x).1 hf with h | h
  ·exact h1 x hx hy h
  ·exact h2 x hx hy h
 | none, some b, h1, h2 => ⟨h2.1, (either_fits hd hw b).2 (.inr h2.2.1), fun x hx hy hf => by
  rcases (either_fits hd hw x).1 hf with h | h
  ·exact h1 x hx (by have := year_mono (a := x) (b := b) (by omega); have := h2.2.2.2; omega) h
  ·exact h2.2.2.1 x hx hy h, h2.2.2.2⟩
 | some a, none, h1, h2 => ⟨h1.1, (either_fits hd hw a).2 (.inl h1.2.1), fun x hx hy hf => by
  rcases (either_fits hd hw x).1 hf with h | h
  ·exact h1.2.2.1 x hx hy h
  ·exact h2 x hx (by have := year_mono (a := x) (b := a) (by omega); have := h1.2.2.2; omega) h, h1.2.2.2⟩
 | some a, some b, h1, h2 => by
  show Least S f lim (if b < a then some b else some a)
  by_cases hba : b < a
  ·rw [if_pos hba]
   refine ⟨h2.1, (either_fits hd hw b).2 (.inr h2.2.1), fun x hx hy hf => ?_, h2.2.2.2⟩
   rcases (either_fits hd hw x).1 hf with h | h
   ·exact h1.2.2.1 x hx (by omega) h
   ·exact h2.2.2.1 x hx hy h
  ·rw [if_neg hba]
   refine ⟨h1.1, (either_fits hd hw a).2 (.inl h1.2.1), fun x hx hy hf => ?_, h1.2.2.2⟩
   rcases (either_fits hd hw x).1 hf with h | h
   ·exact h1.2.2.1 x hx hy h
   ·exact h2.2.2.1 x hx (by omega) h
end Go.Proofs.YtmecbmgfacpecaaGreatDoor.Cal
namespace Go.Proofs.YtmecbmgfacpecaaGreatDoor.Text
open Go Go.RowKit Go.Proofs.YtmecbmgfacpecaaGreatDoorW.PrintWords Go.Proofs.YtmecbmgfacpecaaGreatDoor.Pr
set_option linter.unusedVariables false
def ba (l : List UInt8) : ByteArray := ⟨l.toArray⟩
theorem ba_size (l : List UInt8) : (ba l).size = l.length := by unfold ba ByteArray.size; exact List.size_toArray
theorem ba_list (l : List UInt8) : (ba l).data.toList = l := by simp [ba]
theorem ba_of (s : ByteArray) : ba s.data.toList = s := by simp [ba]
theorem size_list (s : ByteArray) : s.size = s.data.toList.length := (Array.length_toList (xs := s.data)).symm
theorem toList_data (s : ByteArray) : s.toList = s.data.toList := by
 have key : ∀ (n i : Nat) (r : List UInt8), s.size - i = n → ByteArray.toList.loop s i r = r.reverse ++ s.data.toList.drop i := by
  intro n
  induction n with
  | zero =>
   intro i r h
   unfold ByteArray.toList.loop
   rw [if_neg (by omega), List.drop_eq_nil_of_le (by rw [← size_list]; omega), List.append_nil]
  | succ n ih =>
   intro i r h
   have hi : i < s.size := by omega
   unfold ByteArray.toList.loop
   rw [if_pos hi, ih (i + 1) _ (by omega)]
   have hi' : i < s.data.toList.length := by rw [← size_list]; exact hi
   rw [List.drop_eq_getElem_cons hi', List.reverse_cons, List.append_assoc, List.singleton_append]
   have : s.get! i = s.data.toList[i] := by
    show s.data[i]! = _
    rw [getElem!_pos s.data i (by simpa using hi')]
    simp
   rw [this]
 have := key s.size 0 [] (by omega)
 simpa [ByteArray.toList] using this
theorem bt_list (s : ByteArray) (i : Nat) (h : i < s.data.toList.length) : bt s (i : Int) = ((s.data.toList[i]).toNat : Int) := by
 have h' : i < s.size := by rw [size_list]; exact h
 have := bt_at s (i : Int) (by simpa using h')
 rw [← this]
 simp only [Int.toNat_natCast]
 rfl
theorem extract_list (s : ByteArray) (a b : Nat) : (s.extract a b).data.toList = (s.data.toList.take b).drop a := by
 rw [ByteArray.data_extract, Array.toList_extract, List.extract_eq_take_drop, List.drop_take]
theorem extract_ba (s : ByteArray) (a b : Nat) : s.extract a b = ba ((s.data.toList.take b).drop a) := by
 rw [← extract_list, ba_of]
theorem ba_inj {a b : List UInt8} (h : ba a = ba b) : a = b := by
 have := congrArg (fun x => x.data.toList) h
 simpa [ba] using this
def splitL (c : UInt8) : List UInt8 → List (List UInt8)
 | [] => [[]]
 | x :: r => if x = c then [] :: splitL c r else match splitL c r with
  | h :: t => (x :: h) :: t
  | [] => [[x]]
def consHead (p : List UInt8) : List (List UInt8) → List (List UInt8)
 | h :: t => (p ++ h) :: t
 | [] => [p]
theorem splitL_ne (c : UInt8) (l : List UInt8) : splitL c l ≠ [] := by
 cases l with
 | nil => simp [splitL]
 | cons x r =>
  unfold splitL
  split
  ·simp
  ·split <;> simp
theorem splitL_cons_ne {c x : UInt8} (r : List UInt8) (h : x ≠ c) : splitL c (x :: r) = consHead [x] (splitL c r) := by
 rw [splitL, if_neg h]
 cases e : splitL c r <;> rfl
theorem splitL_cons_eq (c : UInt8) (r : List UInt8) : splitL c (c :: r) = [] :: splitL c r := by rw [splitL, if_pos rfl]
theorem consHead_nil {ls : List (List UInt8)} (h : ls ≠ []) : consHead [] ls = ls := by
 cases ls with
 | nil => exact absurd rfl h
 | cons a t => rfl
theorem consHead_cons (p q : List UInt8) (ls : List (List UInt8)) : consHead p (consHead q ls) = consHead (p ++ q) ls := by
 cases ls <;> simp [consHead]
theorem splitL_none {c : UInt8} : ∀ {l : List UInt8}, c ∉ l → splitL c l = [l]
 | [], _ => rfl
 | x :: r, h => by
  have h1 : x ≠ c := fun e => h (by simp [e])
  have h2 : c ∉ r := fun e => h (by simp [e])
  rw [splitL_cons_ne r h1, splitL_none h2]
  rfl
theorem splitL_at {c : UInt8} : ∀ {p : List UInt8} (q : List UInt8), c ∉ p → splitL c (p ++ c :: q) = p :: splitL c q
 | [], q, _ => splitL_cons_eq c q
 | x :: r, q, h => by
  have h1 : x ≠ c := fun e => h (by simp [e])
  have h2 : c ∉ r := fun e => h (by simp [e])
  rw [List.cons_append, splitL_cons_ne _ h1, splitL_at q h2]
  rfl
theorem splitL_len (c : UInt8) : ∀ l : List UInt8, (splitL c l).length ≤ l.length + 1
 | [] => by simp [splitL]
 | x :: r => by
  have := splitL_len c r
  by_cases h : x = c
  ·subst h; rw [splitL_cons_eq]; simp; omega
  ·rw [splitL_cons_ne r h]
   cases e : splitL c r with
   | nil => simp [consHead]
   | cons a t => simp [consHead]; rw [e] at this; simp at this; omega
theorem splitL_size (c : UInt8) : ∀ (l : List UInt8), ∀ p ∈ splitL c l, p.length ≤ l.length
 | [] => by simp [splitL]
 | x :: r => by
  have ih := splitL_size c r
  by_cases h : x = c
  ·subst h
   rw [splitL_cons_eq]
   intro p hp
   rcases List.mem_cons.1 hp with rfl | hp
   ·simp
   ·have := ih p hp; simp; omega
  ·rw [splitL_cons_ne r h]
   intro p hp
   cases e : splitL c r with
   | nil => exact absurd e (splitL_ne c r)
   | cons a t =>
    rw [e] at hp ih
    rcases List.mem_cons.1 hp with rfl | hp
    ·have := ih a (by simp); simp; omega
    ·have := ih p (by simp [hp]); simp; omega
def splitB (c : UInt8) (s : ByteArray) : List ByteArray := (splitL c s.data.toList).map ba
theorem splitB_ne (c : UInt8) (s : ByteArray) : splitB c s ≠ [] := by
 unfold splitB
 intro h
 exact splitL_ne c _ (List.map_eq_nil_iff.1 h)
theorem wrap_in {n : Int} (h : 0 ≤ n) (h2 : n ≤ 281474976710657) : wrap64 n = n := by unfold wrap64; omega
theorem pieces_l0 (c : UInt8) (s : ByteArray) (hs : s.size ≤ 281474976710656) : ∀ (d k : Nat) (acc : List ByteArray) (f i : Nat), f ≤ i → i ≤ s.size → s.size - i = d → d < k → acc.length + s.size - i + 1 < 8796093022208 →
  spec_cronPieces.l0 k s (c.toNat : Int) acc f (s.size : Int) i = some (acc ++ (consHead ((s.data.toList.take i).drop f) (splitL c (s.data.toList.drop i))).map ba) := by
 intro d
 induction d with
 | zero =>
  intro k acc f i hf hi hd hk hl
  obtain ⟨k, rfl⟩ : ∃ m, k = m + 1 := ⟨k - 1, by omega⟩
  simp only [spec_cronPieces.l0]
  have e : i = s.size := by omega
  rw [if_neg (by omega), if_pos (by omega), if_pos (by omega), if_pos (by omega)]
  have hdr : s.data.toList.drop i = [] := List.drop_eq_nil_of_le (by rw [← size_list]; omega)
  rw [hdr, extract_ba, Int.toNat_natCast]
  have ht : s.data.toList.take s.size = s.data.toList.take i := by rw [e]
  rw [ht]
  simp [splitL, consHead]
 | succ d ih =>
  intro k acc f i hf hi hd hk hl
  obtain ⟨k, rfl⟩ : ∃ m, k = m + 1 := ⟨k - 1, by omega⟩
  have hlt : i < s.data.toList.length := by rw [← size_list]; omega
  simp only [spec_cronPieces.l0]
  rw [if_pos (by omega), if_pos (by omega), if_pos (by omega), bt_list s i hlt, List.drop_eq_getElem_cons hlt]
  have hw : wrap64 ((i : Int) + 1) = ((i + 1 : Nat) : Int) := by rw [wrap_in (by omega) (by omega)]; omega
  by_cases h : s.data.toList[i] = c
  ·rw [if_pos (by rw [h]), if_pos (by omega), if_pos (by omega), if_pos (by omega), if_pos (by omega), hw]
   rw [ih k _ (i + 1) (i + 1) (by omega) (by omega) (by omega) (by omega) (by simp; omega)]
   rw [h, splitL_cons_eq]
   have hp : (s.data.toList.take (i + 1)).drop (i + 1) = [] := List.drop_eq_nil_of_le (by simp; omega)
   rw [hp, consHead_nil (splitL_ne _ _), extract_ba, Int.toNat_natCast, Int.toNat_natCast]
   simp [consHead]
  ·rw [if_neg (by intro e; exact h (UInt8.toNat_inj.1 (by omega))), hw]
   rw [ih k _ f (i + 1) (by omega) (by omega) (by omega) (by omega) (by omega)]
   rw [splitL_cons_ne _ h, consHead_cons]
   congr 3
   rw [List.take_succ_eq_append_getElem hlt, List.drop_append_of_le_length (by simp; omega)]
theorem pieces_f (c : UInt8) (s : ByteArray) (hs : s.size ≤ 8796093022206) : Ev (fun k => spec_cronPieces.f k s (c.toNat : Int)) (splitB c s) := by
 refine ⟨s.size + 1, fun k hk => ?_⟩
 unfold spec_cronPieces.f
 have := pieces_l0 c s (by omega) s.size k [] 0 0 (by omega) (by omega) (by omega) (by omega) (by simp; omega)
 rw [show ((0 : Nat) : Int) = 0 from rfl] at this
 show spec_cronPieces.l0 k s (c.toNat : Int) [] 0 (s.size : Int) 0 = _
 rw [this]
 simp [splitB, consHead_nil (splitL_ne _ _)]
theorem index_l0 (c : UInt8) (s : ByteArray) (hs : s.size ≤ 281474976710655) : ∀ (d k i : Nat), i ≤ s.size → s.size - i = d → d < k →
  (cron_zzIndex.l0 k s (ba [c]) i = some (-1) ∧ c ∉ s.data.toList.drop i) ∨
  ∃ j : Nat, cron_zzIndex.l0 k s (ba [c]) i = some (j : Int) ∧ i ≤ j ∧ j < s.size ∧ ∃ p q, s.data.toList.drop i = p ++ c :: q ∧ c ∉ p ∧ p.length = j - i := by
 intro d
 induction d with
 | zero =>
  intro k i hi hd hk
  obtain ⟨k, rfl⟩ : ∃ m, k = m + 1 := ⟨k - 1, by omega⟩
  left
  simp only [cron_zzIndex.l0, ba_size, List.length_singleton]
  rw [wrap_in (by omega) (by omega), if_neg (by omega)]
  refine ⟨rfl, ?_⟩
  rw [List.drop_eq_nil_of_le (by rw [← size_list]; omega)]
  simp
 | succ d ih =>
  intro k i hi hd hk
  obtain ⟨k, rfl⟩ : ∃ m, k = m + 1 := ⟨k - 1, by omega⟩
  have hlt : i < s.data.toList.length := by rw [← size_list]; omega
  simp only [cron_zzIndex.l0, ba_size, List.length_singleton]
  have hw : wrap64 ((i : Int) + ((1 : Nat) : Int)) = ((i + 1 : Nat) : Int) := by rw [wrap_in (by omega) (by omega)]; omega
  have hw' : wrap64 ((i : Int) + 1) = ((i + 1 : Nat) : Int) := by rw [wrap_in (by omega) (by omega)]; omega
  rw [hw, if_pos (by omega), if_pos (by omega), if_pos (by omega), hw', Int.toNat_natCast, Int.toNat_natCast, toList_data, toList_data, extract_list, ba_list]
  have hx : (s.data.toList.take (i + 1)).drop i = [s.data.toList[i]] := by
   rw [List.take_succ_eq_append_getElem hlt, List.drop_append_of_le_length (by simp; omega), List.drop_eq_nil_of_le (by simp; omega)]
   rfl
  rw [hx, List.drop_eq_getElem_cons hlt]
  by_cases h : s.data.toList[i] = c
  ·right
   rw [if_pos (by rw [h])]
   exact ⟨i, rfl, by omega, by omega, [], _, by rw [h]; rfl, by simp, by simp⟩
  ·rw [if_neg (by intro e; exact h (by simpa using e))]
   rcases ih k (i + 1) (by omega) (by omega) (by omega) with ⟨h1, h2⟩ | ⟨j, h1, h2, h3, p, q, h4, h5, h6⟩
   ·left
    refine ⟨h1, ?_⟩
    intro hm
    rcases List.mem_cons.1 hm with e | hm
    ·exact h e.symm
    ·exact h2 hm
   ·right
    refine ⟨j, h1, by omega, h3, s.data.toList[i] :: p, q, by rw [h4]; rfl, ?_, by simp; omega⟩
    intro hm
    rcases List.mem_cons.1 hm with e | hm
    ·exact h e.symm
    ·exact h5 hm
theorem split_l0 (c : UInt8) : ∀ (n : Nat) (s : ByteArray) (k : Nat) (acc : List ByteArray), s.size ≤ n → s.size ≤ 281474976710655 → n + 2 < k → acc.length + s.size + 1 < 8796093022208 →
  cron_zzSplit.l0 k s (ba [c]) acc = some (acc ++ splitB c s) := by
 intro n
 induction n with
 | zero =>
  intro s k acc hn hs hk hl
  obtain ⟨k, rfl⟩ : ∃ m, k = m + 1 := ⟨k - 1, by omega⟩
  simp only [cron_zzSplit.l0]
  rcases index_l0 c s hs s.size k 0 (by omega) (by omega) (by omega) with ⟨h1, h2⟩ | ⟨j, h1, h2, h3, _⟩
  ·unfold cron_zzIndex.f
   rw [show ((0 : Nat) : Int) = 0 from rfl] at h1
   rw [h1]
   simp only [Option.bind_some]
   rw [if_pos (by omega), if_pos (by omega)]
   rw [List.drop_zero] at h2
   rw [splitB, splitL_none h2]
   simp [ba_of]
  ·omega
 | succ n ih =>
  intro s k acc hn hs hk hl
  obtain ⟨k, rfl⟩ : ∃ m, k = m + 1 := ⟨k - 1, by omega⟩
  simp only [cron_zzSplit.l0]
  rcases index_l0 c s hs s.size k 0 (by omega) (by omega) (by omega) with ⟨h1, h2⟩ | ⟨j, h1, h2, h3, p, q, h4, h5, h6⟩
  ·unfold cron_zzIndex.f
   rw [show ((0 : Nat) : Int) = 0 from rfl] at h1
   rw [h1]
   simp only [Option.bind_some]
   rw [if_pos (by omega), if_pos (by omega)]
   rw [List.drop_zero] at h2
   rw [splitB, splitL_none h2]
   simp [ba_of]
  ·unfold cron_zzIndex.f
   rw [show ((0 : Nat) : Int) = 0 from rfl] at h1
   rw [h1]
   simp only [Option.bind_some, ba_size, List.length_singleton]
   have hw : wrap64 ((j : Int) + ((1 : Nat) : Int)) = ((j + 1 : Nat) : Int) := by rw [wrap_in (by omega) (by omega)]; omega
   rw [if_neg (by omega), if_pos (by omega), if_pos (by omega), if_pos (by omega), hw, if_pos (by omega), if_pos (by omega), Int.toNat_natCast, Int.toNat_natCast]
   rw [List.drop_zero] at h4
   have hsz : (s.extract (j + 1) s.size).size = s.size - (j + 1) := by simp
   rw [ih _ k _ (by omega) (by omega) (by omega) (by simp; omega)]
   have e1 : s.extract 0 j = ba p := by
    rw [extract_ba, h4]
    congr 1
    simp
    rw [List.take_append_of_le_length (by omega), List.take_of_length_le (by omega)]
   have e2 : s.extract (j + 1) s.size = ba q := by
    rw [extract_ba, size_list, List.take_length, h4]
    congr 1
    rw [show j + 1 = p.length + 1 by omega, List.drop_append]
    simp
   rw [e1, e2]
   have e3 : splitB c s = ba p :: splitB c (ba q) := by
    rw [splitB, h4, splitL_at q h5, splitB, ba_list]
    rfl
   rw [e3]
   simp
theorem split_f (c : UInt8) (s : ByteArray) (hs : s.size ≤ 8796093022206) : Ev (fun k => cron_zzSplit.f k s (ba [c])) (splitB c s) := by
 refine ⟨s.size + 3, fun k hk => ?_⟩
 unfold cron_zzSplit.f
 show cron_zzSplit.l0 k s (ba [c]) [] = _
 rw [split_l0 c s.size s k [] (by omega) (by omega) (by omega) (by simp; omega)]
 simp
end Go.Proofs.YtmecbmgfacpecaaGreatDoor.Text
namespace Go.Proofs.YtmecbmgfacpecaaGreatDoor.Cron
open Go Go.RowKit
theorem bcell {W w1 : World} (hb : Below W.heap.size W w1) : (∀ b o, b < W.heap.size → w1.cell? ⟨b, o, none⟩ = W.cell? ⟨b, o, none⟩) ∧ (∀ b o, b < W.heap.size → w1.frozen? ⟨b, o, none⟩ = W.frozen? ⟨b, o, none⟩) :=
 ⟨fun b o h => hb.cell (p := ⟨b, o, none⟩) h, fun b o h => hb.frozen (p := ⟨b, o, none⟩) h⟩
theorem below_of_le {W w1 w2 : World} (h1 : Below W.heap.size W w1) (h2 : Below w1.heap.size w1 w2) : Below W.heap.size W w2 :=
 h1.trans (h2.mono h1.size)
theorem errorsNew_any (s : ByteArray) (w : World) :
  Calls Tryz.prog 96 #[.string s] w fun e w' => ∃ t x, e = .returned (.iface t x) ∧ Below w.heap.size w w' := by
 go_enter Tryz.func96, Tryz.ntmps96
 go_wp2
 go_ret
 exact ⟨_, _, rfl, (Below.refl _ _).alloc (Nat.le_refl _) _⟩
end Go.Proofs.YtmecbmgfacpecaaGreatDoor.Cron
namespace Go.Proofs.YtmecbmgfacpecaaGreatDoor.Text
open Go Go.RowKit Go.Proofs.YtmecbmgfacpecaaGreatDoorW.PrintWords Go.Proofs.YtmecbmgfacpecaaGreatDoor.Pr
set_option linter.unusedVariables false
structure Texts (w : World) (g n cap : Nat) (l : List ByteArray) : Prop where
 len : n = l.length
 le : n ≤ cap
 lt : g < w.heap.size
 at_ : ∀ (i : Nat) x, l[i]? = some x → w.cell? ⟨g, i, none⟩ = some (.string x)
theorem Texts.below {w w' : World} {g n cap : Nat} {l : List ByteArray} (h : Texts w g n cap l) (hb : Below w.heap.size w w') : Texts w' g n cap l :=
 ⟨h.len, h.le, Nat.lt_of_lt_of_le h.lt hb.size, fun i x hx => (hb.cell (p := ⟨g, i, none⟩) h.lt).trans (h.at_ i x hx)⟩
theorem texts_of_R {e : Nat} {w : World} {base : Nat} {ok : Nat → Prop} {v : Value} {l : List ByteArray} (h : Kd.R Kd.string e w base ok v l) (hne : l ≠ []) :
  ∃ g n cap, v = .slice (some ⟨g, 0, none⟩) n cap ∧ base ≤ g ∧ Texts w g n cap l := by
 have ho := Kd.own_of_R h
 obtain ⟨_, h1 | ⟨g, cap, cur, rfl, hg, hb, hn, hc, hs, ht⟩⟩ := ho
 ·exact absurd (List.length_eq_zero_iff.1 h1.2) hne
 ·refine ⟨g, _, cap, rfl, hg, rfl, hn, ?_, fun i x hx => ?_⟩
  ·exact (Array.getElem?_eq_some_iff.1 hb).1
  ·have hi : i < l.length := (List.getElem?_eq_some_iff.1 hx).1
   have := (Kd.R_cell ByteArray.empty h (i : Int) (by omega) (by omega)).1
   rw [Int.toNat_natCast] at this
   rw [this]
   simp only [rdOf, Int.toNat_natCast, List.getD_eq_getElem?_getD, hx, Option.getD_some]
theorem zzSplit_any (c : UInt8) (s : ByteArray) (hs : s.size ≤ 8796093022206) (w : World) :
  Calls Tryz.prog 179 #[.string s, .string (ba [c])] w fun e w' => ∃ g n cap, e = .returned (.slice (some ⟨g, 0, none⟩) n cap) ∧ w.heap.size ≤ g ∧ Texts w' g n cap (splitB c s) ∧ Below w.heap.size w w' := by
 obtain ⟨k, hk⟩ := (split_f c s hs).rounds
 refine (cron_zzSplit.calls k s (ba [c]) _ w hk).mono ?_
 rintro e w' ⟨v, rfl, hR, hb⟩
 obtain ⟨g, n, cap, rfl, hg, ht⟩ := texts_of_R hR (splitB_ne c s)
 exact ⟨g, n, cap, rfl, hg, ht, hb⟩
end Go.Proofs.YtmecbmgfacpecaaGreatDoor.Text
