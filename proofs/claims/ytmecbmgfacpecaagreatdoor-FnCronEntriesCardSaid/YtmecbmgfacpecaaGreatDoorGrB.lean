/- Lemmas and walks on the way to the law, merged by wip/tools/pack.py: Sched, Sched2, Sched3, Split, SplitCalls, Bits. Conditions: none. -/
import Derived.Test.YtmecbmgfacpecaaGreatDoorGrA
import Derived.Conc.MuLone
import Derived.Laws.CopyOwn
import Derived.Test.YtmecbmgfacpecaaGreatDoorPrSplitT
set_option linter.unusedVariables false
set_option linter.unusedSimpArgs false
namespace Go.Proofs.YtmecbmgfacpecaaGreatDoor.Sched
open Go Go.RowKit Go.Proofs.YtmecbmgfacpecaaGreatDoor.Cal
theorem heap_alloc2 (w : World) (o o' : Obj) : ((w.alloc o).alloc o').heap[w.heap.size + 1]? = some o' := by
 have := heap_alloc_new (w.alloc o) o';rw [show (w.alloc o).heap.size = w.heap.size + 1 by simp] at this;exact this
theorem chainThen_any (j : Value) (w : World) :
  Calls Tryz.prog 153 #[.agg #[.slice none 0 0], j] w fun e w' => e = .returned j ∧ Below w.heap.size w w' := by
 go_enter Tryz.func153, Tryz.ntmps153;go_wp2_with fail
 go_loopw [1, 9] (fun v1 v9 wr => v1 = j ∧ v9 = .int .i64 0 ∧ Below w.heap.size w wr) (fun _ _ _ => 0)
 case atStart => exact ⟨rfl, rfl, (Below.refl _ _).alloc (Nat.le_refl _) _⟩
 case round =>
  obtain ⟨rfl, rfl, hbr⟩ := hrel;go_wp2_with fail
  go_ret;exact ⟨rfl, hbr⟩
theorem isZero_any (w : World) :
  Calls Tryz.prog 119 #[.agg #[.int .u64 0, .int .i64 0, .pointer none]] w fun e w' => e = .returned (.bool true) ∧ Below w.heap.size w w' := by
 go_enter Tryz.func119, Tryz.ntmps119;go_wp2_with fail
 go_ret;exact ⟨rfl, (Below.refl _ _).alloc (Nat.le_refl _) _⟩
def entryCells (id : Int) (sch wj job : Value) : Array Value := #[.int .i64 id, sch, .int .u64 0, .int .i64 0, .pointer none, .int .u64 0, .int .i64 0, .pointer none, wj, job]
theorem valid_any (id : Int) (sch wj job : Value) (w : World) :
  Calls Tryz.prog 118 #[.agg (entryCells id sch wj job)] w fun e w' => e = .returned (.bool (id != 0)) ∧ Below w.heap.size w w' := by
 unfold entryCells;go_enter Tryz.func118, Tryz.ntmps118;go_wp2_with fail
 go_ret;exact ⟨rfl, (Below.refl _ _).alloc (Nat.le_refl _) _⟩
end Go.Proofs.YtmecbmgfacpecaaGreatDoor.Sched
namespace Go.Proofs.YtmecbmgfacpecaaGreatDoor.Sched
open Go Go.RowKit Go.Proofs.YtmecbmgfacpecaaGreatDoor.Cal Go.Proofs.YtmecbmgfacpecaaGreatDoorW.PrintWords Go.Proofs.YtmecbmgfacpecaaGreatDoorW.PrintLast
theorem schSize : (Tryz.prog.info? 26).map (·.size) = some 8 := by kernel_rfl
theorem ansSize0 : (Tryz.prog.info? 44).map (·.size) = some 12 := by kernel_rfl
theorem below_of_le {W w1 w2 : World} (h1 : Below W.heap.size W w1) (h2 : Below w1.heap.size w1 w2) : Below W.heap.size W w2 :=
 h1.trans (h2.mono h1.size)
section
variable {P : Program}
theorem run_storeVar_at (w : World) (g o : Nat) (t ty : TypeId) (cur cells : Array Value) (hg : w.heap[g]? = some (.cells cur t (0, 0))) (hfit : o + cells.size ≤ cur.size) (hi : (P.info? ty).map (·.size) = some cells.size)
  (h1 : cells.all (·.oneCell') = true) :
  (storeVar ty ⟨g, o, none⟩ (.agg cells)).run P w = .ok () (w.setRow g (cur.toList.take o ++ cells.toList ++ cur.toList.drop (o + cells.size)).toArray) := by
 have := run_storeCells_at P g o t cells.toList 0 cur w hg (by simpa using hfit) (fun v hv => (Array.all_eq_true_iff_forall_mem.1 h1) v (by simpa using hv));cases hq : P.info? ty with
 | none => simp [hq] at hi
 | some i =>
  have hs : cells.size = i.size := by simp [hq] at hi; omega
  simp only [Nat.add_zero, Array.length_toList] at this;simp [storeVar, sizeOf, typeInfo, hq, Value.cells, hs];rw [← hs];simpa [List.append_assoc] using this
theorem wp_store_at {o : Oper} {a : Act} {w : World} {K : Act → World → Prop} {Q : Exit → Act → World → Prop} (ty : TypeId) (x y : Operand) (ho : o.op = .store ty x y)
  (g of : Nat) (cells : Array Value) (hx : a.eval x = .pointer (some ⟨g, of, none⟩)) (hy : a.eval y = .agg cells)
  (t : TypeId) (cur : Array Value) (hg : w.heap[g]? = some (.cells cur t (0, 0))) (hi : (P.info? ty).map (·.size) = some cells.size)
  (hfit : of + cells.size ≤ cur.size) (h1 : cells.all (·.oneCell') = true)
  (h : K (a.put o.dst undef) (w.setRow g (cur.toList.take of ++ cells.toList ++ cur.toList.drop (of + cells.size)).toArray)) : o.wp P a w K Q := by
 unfold Oper.wp execOp;simp only [ho, hx, hy, Instr.storeAt, Instr.sureAddr, Sem.run_bind, Sem.run_pure, Result.andThen_ok, run_storeVar_at w g of t ty cur cells hg hfit hi h1];exact h
theorem wpList_store_at {ops : Array Oper} {rest : List Oper} {o : Oper} {a : Act} {w : World} {Q : Exit → Act → World → Prop} (hgd : o.guard = none) (ty : TypeId) (x y : Operand) (ho : o.op = .store ty x y)
  (g of : Nat) (cells : Array Value) (hx : a.eval x = .pointer (some ⟨g, of, none⟩)) (hy : a.eval y = .agg cells)
  (t : TypeId) (cur : Array Value) (hg : w.heap[g]? = some (.cells cur t (0, 0))) (hi : (P.info? ty).map (·.size) = some cells.size)
  (hfit : of + cells.size ≤ cur.size) (h1 : cells.all (·.oneCell') = true)
  (h : wpList P ops Q rest (a.put o.dst undef) (w.setRow g (cur.toList.take of ++ cells.toList ++ cur.toList.drop (of + cells.size)).toArray)) : wpList P ops Q (o :: rest) a w :=
 wpList_plain hgd fun _ hK => wp_store_at ty x y ho g of cells hx hy t cur hg hi hfit h1 (hK _ _ h)
end
theorem results_ans {fn : Func} {p : Tmp} (h : fn.results = #[.cell p 44]) (tmps : Array Value) (w : World) (g : Nat) (cs : Array Value) (hn : cs.size = 12)
  (hp : tmps.getD p undef = .pointer (some ⟨g, 0, none⟩)) (hs : w.heap[g]? = some (.cells cs 44 (0, 0))) :
  (results fn tmps).run Tryz.prog w = .ok (.agg cs) w := by
 have hl := run_loadVar_row (P := Tryz.prog) w g _ _ _ _ _ hs Tryz.underlying44 rfl (by rw [ansSize0, hn]);have hp' : tmps[p]?.getD undef = .pointer (some ⟨g, 0, none⟩) := by simpa using hp
 simp only [results, h];simp [asAddr, hp', hl]
def noAns : Array Value := #[.bool false, .int .i64 0, .slice none 0 0, .bool false, .int .i64 0, .int .u64 0, .int .u64 0, .int .u64 0, .int .u64 0, .int .u64 0, .int .u64 0, .bool false]
def AnsRow (w : World) (g : Nat) : Prop := w.heap[g]? = some (.cells noAns 44 (0, 0))
theorem AnsRow.below {w w' : World} {g : Nat} (h : AnsRow w g) (hb : Below w.heap.size w w') : AnsRow w' g := (hb.block g (Array.getElem?_eq_some_iff.1 h).1).trans h
theorem ansRow_new (w : World) : AnsRow (w.alloc (.cells noAns 44 (0, 0))) w.heap.size := heap_alloc_new w _
theorem ansRow_of {B : Nat} {wo W : World} (h : Below B wo W) : AnsRow (W.alloc (.cells noAns 44 (0, 0))) W.heap.size := ansRow_new W
theorem run_alloc_ans (w : World) : (Instr.alloc 44 true (.tuple #[])).run Tryz.prog w = .ok (.pointer (some ⟨w.heap.size, 0, none⟩)) (w.alloc (.cells noAns 44 (0, 0))) := by kernel_rfl
theorem exec_alloc_ans (ev : Operand → Value) (oi : Oper) (w : World) (ho : oi.op = .alloc 44) :
  (execOp ev oi).run Tryz.prog w = .ok (.value (.pointer (some ⟨w.heap.size, 0, none⟩))) (w.alloc (.cells noAns 44 (0, 0))) := by
 have := run_alloc_ans w;unfold execOp;rw [ho];simp only [Sem.run_bind, Sem.run_pure, Result.andThen_ok, this]
theorem ansSize : (Tryz.prog.info? 44).map (·.size) = some 12 := by kernel_rfl
theorem wpList_store_ans {ops : Array Oper} {rest : List Oper} {o : Oper} {a : Act} {w : World} {Q : Exit → Act → World → Prop} (hgd : o.guard = none) (x y : Operand) (ho : o.op = .store 26 x y)
  (g : Nat) (id : Int) (pl : Array Value) (h8 : pl.size = 8) (h1 : pl.all (·.oneCell') = true) (hx : a.eval x = .pointer (some ⟨g, 3, none⟩)) (hy : a.eval y = .agg pl)
  (hg : w.heap[g]? = some (.cells #[.bool true, .int .i64 id, .slice none 0 0, .bool false, .int .i64 0, .int .u64 0, .int .u64 0, .int .u64 0, .int .u64 0, .int .u64 0, .int .u64 0, .bool true] 44 (0, 0)))
  (h : wpList Tryz.prog ops Q rest (a.put o.dst undef) (w.setRow g (Value.bool true :: Value.int IntKind.i64 id :: Value.slice none 0 0 :: (pl.toList ++ [Value.bool true])).toArray)) : wpList Tryz.prog ops Q (o :: rest) a w := by
 refine wpList_store_at hgd 26 x y ho g 3 pl hx hy 44 _ hg (by rw [schSize, h8]) (by rw [h8]; show 3 + 8 ≤ 12; omega) h1 ?_
 have e : (List.take 3 (#[Value.bool true, .int .i64 id, .slice none 0 0, .bool false, .int .i64 0, .int .u64 0, .int .u64 0, .int .u64 0, .int .u64 0, .int .u64 0, .int .u64 0, .bool true] : Array Value).toList ++ pl.toList ++ List.drop (3 + pl.size) (#[Value.bool true, .int .i64 id, .slice none 0 0, .bool false, .int .i64 0, .int .u64 0, .int .u64 0, .int .u64 0, .int .u64 0, .int .u64 0, .int .u64 0, .bool true] : Array Value).toList).toArray = (Value.bool true :: Value.int IntKind.i64 id :: Value.slice none 0 0 :: (pl.toList ++ [Value.bool true])).toArray := by
  rw [h8]; simp
 rw [e];exact h
end Go.Proofs.YtmecbmgfacpecaaGreatDoor.Sched
namespace Go.Proofs.YtmecbmgfacpecaaGreatDoor.Text
open Go Go.RowKit Go.Proofs.YtmecbmgfacpecaaGreatDoorW.PrintWords Go.Proofs.YtmecbmgfacpecaaGreatDoor.Pr
def ba (l : List UInt8) : ByteArray := ⟨l.toArray⟩
theorem ba_size (l : List UInt8) : (ba l).size = l.length := by unfold ba ByteArray.size; exact List.size_toArray
theorem ba_list (l : List UInt8) : (ba l).data.toList = l := by simp [ba]
theorem ba_of (s : ByteArray) : ba s.data.toList = s := by simp [ba]
theorem size_list (s : ByteArray) : s.size = s.data.toList.length := (Array.length_toList (xs := s.data)).symm
theorem toList_data (s : ByteArray) : s.toList = s.data.toList := by
 have key : ∀ (n i : Nat) (r : List UInt8), s.size - i = n → ByteArray.toList.loop s i r = r.reverse ++ s.data.toList.drop i := by
  intro n;induction n with
  | zero =>
   intro i r h;unfold ByteArray.toList.loop;rw [if_neg (by omega), List.drop_eq_nil_of_le (by rw [← size_list]; omega), List.append_nil]
  | succ n ih =>
   intro i r h;have hi : i < s.size := by omega
   unfold ByteArray.toList.loop;rw [if_pos hi, ih (i + 1) _ (by omega)];have hi' : i < s.data.toList.length := by rw [← size_list]; exact hi
   rw [List.drop_eq_getElem_cons hi', List.reverse_cons, List.append_assoc, List.singleton_append]
   have : s.get! i = s.data.toList[i] := by
    show s.data[i]! = _
    rw [getElem!_pos s.data i (by simpa using hi')];simp
   rw [this]
 have := key s.size 0 [] (by omega);simpa [ByteArray.toList] using this
theorem bt_list (s : ByteArray) (i : Nat) (h : i < s.data.toList.length) : bt s (i : Int) = ((s.data.toList[i]).toNat : Int) := by
 have h' : i < s.size := by rw [size_list]; exact h
 have := bt_at s (i : Int) (by simpa using h');rw [← this];simp only [Int.toNat_natCast];rfl
theorem extract_list (s : ByteArray) (a b : Nat) : (s.extract a b).data.toList = (s.data.toList.take b).drop a := by
 rw [ByteArray.data_extract, Array.toList_extract, List.extract_eq_take_drop, List.drop_take]
theorem extract_ba (s : ByteArray) (a b : Nat) : s.extract a b = ba ((s.data.toList.take b).drop a) := by
 rw [← extract_list, ba_of]
theorem ba_inj {a b : List UInt8} (h : ba a = ba b) : a = b := by
 have := congrArg (fun x => x.data.toList) h;simpa [ba] using this
def splitL (c : UInt8) : List UInt8 → List (List UInt8)
 | [] => [[]]
 | x :: r => if x = c then [] :: splitL c r else match splitL c r with
  | h :: t => (x :: h) :: t
  | [] => [[x]]
def consHead (p : List UInt8) : List (List UInt8) → List (List UInt8)
 | h :: t => (p ++ h) :: t
 | [] => [p]
theorem splitL_ne (c : UInt8) (l : List UInt8) : splitL c l ≠ [] := by
 cases l with
 | nil => simp [splitL]
 | cons x r =>
  unfold splitL;split
  ·simp
  ·split <;> simp
theorem splitL_cons_ne {c x : UInt8} (r : List UInt8) (h : x ≠ c) : splitL c (x :: r) = consHead [x] (splitL c r) := by
 rw [splitL, if_neg h];cases e : splitL c r <;> rfl
theorem splitL_cons_eq (c : UInt8) (r : List UInt8) : splitL c (c :: r) = [] :: splitL c r := by rw [splitL, if_pos rfl]
theorem consHead_nil {ls : List (List UInt8)} (h : ls ≠ []) : consHead [] ls = ls := by
 cases ls with
 | nil => exact absurd rfl h
 | cons a t => rfl
theorem consHead_cons (p q : List UInt8) (ls : List (List UInt8)) : consHead p (consHead q ls) = consHead (p ++ q) ls := by
 cases ls <;> simp [consHead]
theorem splitL_none {c : UInt8} : ∀ {l : List UInt8}, c ∉ l → splitL c l = [l]
 | [], _ => rfl
 | x :: r, h => by
  have h1 : x ≠ c := fun e => h (by simp [e])
  have h2 : c ∉ r := fun e => h (by simp [e])
  rw [splitL_cons_ne r h1, splitL_none h2];rfl
theorem splitL_at {c : UInt8} : ∀ {p : List UInt8} (q : List UInt8), c ∉ p → splitL c (p ++ c :: q) = p :: splitL c q
 | [], q, _ => splitL_cons_eq c q
 | x :: r, q, h => by
  have h1 : x ≠ c := fun e => h (by simp [e])
  have h2 : c ∉ r := fun e => h (by simp [e])
  rw [List.cons_append, splitL_cons_ne _ h1, splitL_at q h2];rfl
theorem splitL_len (c : UInt8) : ∀ l : List UInt8, (splitL c l).length ≤ l.length + 1
 | [] => by simp [splitL]
 | x :: r => by
  have := splitL_len c r;by_cases h : x = c
  ·subst h; rw [splitL_cons_eq]; simp; omega
  ·rw [splitL_cons_ne r h];cases e : splitL c r with
   | nil => simp [consHead]
   | cons a t => simp [consHead]; rw [e] at this; simp at this; omega
theorem splitL_size (c : UInt8) : ∀ (l : List UInt8), ∀ p ∈ splitL c l, p.length ≤ l.length
 | [] => by simp [splitL]
 | x :: r => by
  have ih := splitL_size c r;by_cases h : x = c
  ·subst h;rw [splitL_cons_eq];intro p hp;rcases List.mem_cons.1 hp with rfl | hp
   ·simp
   ·have := ih p hp; simp; omega
  ·rw [splitL_cons_ne r h];intro p hp;cases e : splitL c r with
   | nil => exact absurd e (splitL_ne c r)
   | cons a t =>
    rw [e] at hp ih
    rcases List.mem_cons.1 hp with rfl | hp
    ·have := ih a (by simp); simp; omega
    ·have := ih p (by simp [hp]); simp; omega
def splitB (c : UInt8) (s : ByteArray) : List ByteArray := (splitL c s.data.toList).map ba
theorem splitB_ne (c : UInt8) (s : ByteArray) : splitB c s ≠ [] := by
 unfold splitB;intro h;exact splitL_ne c _ (List.map_eq_nil_iff.1 h)
theorem wrap_in {n : Int} (h : 0 ≤ n) (h2 : n ≤ 281474976710657) : wrap64 n = n := by unfold wrap64; omega
theorem pieces_l0 (c : UInt8) (s : ByteArray) (hs : s.size ≤ 281474976710656) : ∀ (d k : Nat) (acc : List ByteArray) (f i : Nat), f ≤ i → i ≤ s.size → s.size - i = d → d < k → acc.length + s.size - i + 1 < 8796093022208 →
  spec_cronPieces.l0 k s (c.toNat : Int) acc f (s.size : Int) i = some (acc ++ (consHead ((s.data.toList.take i).drop f) (splitL c (s.data.toList.drop i))).map ba) := by
 intro d;induction d with
 | zero =>
  intro k acc f i hf hi hd hk hl;obtain ⟨k, rfl⟩ : ∃ m, k = m + 1 := ⟨k - 1, by omega⟩
  simp only [spec_cronPieces.l0];have e : i = s.size := by omega
  rw [if_neg (by omega), if_pos (by omega), if_pos (by omega), if_pos (by omega)];have hdr : s.data.toList.drop i = [] := List.drop_eq_nil_of_le (by rw [← size_list]; omega);rw [hdr, extract_ba, Int.toNat_natCast];have ht : s.data.toList.take s.size = s.data.toList.take i := by rw [e]
  rw [ht];simp [splitL, consHead]
 | succ d ih =>
  intro k acc f i hf hi hd hk hl;obtain ⟨k, rfl⟩ : ∃ m, k = m + 1 := ⟨k - 1, by omega⟩
  have hlt : i < s.data.toList.length := by rw [← size_list]; omega
  simp only [spec_cronPieces.l0];rw [if_pos (by omega), if_pos (by omega), if_pos (by omega), bt_list s i hlt, List.drop_eq_getElem_cons hlt];have hw : wrap64 ((i : Int) + 1) = ((i + 1 : Nat) : Int) := by rw [wrap_in (by omega) (by omega)]; omega
  by_cases h : s.data.toList[i] = c
  ·rw [if_pos (by rw [h]), if_pos (by omega), if_pos (by omega), if_pos (by omega), if_pos (by omega), hw];rw [ih k _ (i + 1) (i + 1) (by omega) (by omega) (by omega) (by omega) (by simp; omega)];rw [h, splitL_cons_eq];have hp : (s.data.toList.take (i + 1)).drop (i + 1) = [] := List.drop_eq_nil_of_le (by simp; omega);rw [hp, consHead_nil (splitL_ne _ _), extract_ba, Int.toNat_natCast, Int.toNat_natCast];simp [consHead]
  ·rw [if_neg (by intro e; exact h (UInt8.toNat_inj.1 (by omega))), hw];rw [ih k _ f (i + 1) (by omega) (by omega) (by omega) (by omega) (by omega)];rw [splitL_cons_ne _ h, consHead_cons];congr 3
   rw [List.take_succ_eq_append_getElem hlt, List.drop_append_of_le_length (by simp; omega)]
theorem pieces_f (c : UInt8) (s : ByteArray) (hs : s.size ≤ 8796093022206) : Ev (fun k => spec_cronPieces.f k s (c.toNat : Int)) (splitB c s) := by
 refine ⟨s.size + 1, fun k hk => ?_⟩;unfold spec_cronPieces.f;have := pieces_l0 c s (by omega) s.size k [] 0 0 (by omega) (by omega) (by omega) (by omega) (by simp; omega);rw [show ((0 : Nat) : Int) = 0 from rfl] at this;show spec_cronPieces.l0 k s (c.toNat : Int) [] 0 (s.size : Int) 0 = _
 rw [this];simp [splitB, consHead_nil (splitL_ne _ _)]
theorem index_l0 (c : UInt8) (s : ByteArray) (hs : s.size ≤ 281474976710655) : ∀ (d k i : Nat), i ≤ s.size → s.size - i = d → d < k →
  (cron_zzIndex.l0 k s (ba [c]) i = some (-1) ∧ c ∉ s.data.toList.drop i) ∨
  ∃ j : Nat, cron_zzIndex.l0 k s (ba [c]) i = some (j : Int) ∧ i ≤ j ∧ j < s.size ∧ ∃ p q, s.data.toList.drop i = p ++ c :: q ∧ c ∉ p ∧ p.length = j - i := by
 intro d;induction d with
 | zero =>
  intro k i hi hd hk;obtain ⟨k, rfl⟩ : ∃ m, k = m + 1 := ⟨k - 1, by omega⟩
  left
  simp only [cron_zzIndex.l0, ba_size, List.length_singleton];rw [wrap_in (by omega) (by omega), if_neg (by omega)];refine ⟨rfl, ?_⟩;rw [List.drop_eq_nil_of_le (by rw [← size_list]; omega)];simp
 | succ d ih =>
  intro k i hi hd hk;obtain ⟨k, rfl⟩ : ∃ m, k = m + 1 := ⟨k - 1, by omega⟩
  have hlt : i < s.data.toList.length := by rw [← size_list]; omega
  simp only [cron_zzIndex.l0, ba_size, List.length_singleton];have hw : wrap64 ((i : Int) + ((1 : Nat) : Int)) = ((i + 1 : Nat) : Int) := by rw [wrap_in (by omega) (by omega)]; omega
  have hw' : wrap64 ((i : Int) + 1) = ((i + 1 : Nat) : Int) := by rw [wrap_in (by omega) (by omega)]; omega
  rw [hw, if_pos (by omega), if_pos (by omega), if_pos (by omega), hw', Int.toNat_natCast, Int.toNat_natCast, toList_data, toList_data, extract_list, ba_list]
  have hx : (s.data.toList.take (i + 1)).drop i = [s.data.toList[i]] := by
   rw [List.take_succ_eq_append_getElem hlt, List.drop_append_of_le_length (by simp; omega), List.drop_eq_nil_of_le (by simp; omega)];rfl
  rw [hx, List.drop_eq_getElem_cons hlt];by_cases h : s.data.toList[i] = c
  ·right
   rw [if_pos (by rw [h])];exact ⟨i, rfl, by omega, by omega, [], _, by rw [h]; rfl, by simp, by simp⟩
  ·rw [if_neg (by intro e; exact h (by simpa using e))];rcases ih k (i + 1) (by omega) (by omega) (by omega) with ⟨h1, h2⟩ | ⟨j, h1, h2, h3, p, q, h4, h5, h6⟩
   ·left
    refine ⟨h1, ?_⟩;intro hm;rcases List.mem_cons.1 hm with e | hm
    ·exact h e.symm
    ·exact h2 hm
   ·right
    refine ⟨j, h1, by omega, h3, s.data.toList[i] :: p, q, by rw [h4]; rfl, ?_, by simp; omega⟩;intro hm;rcases List.mem_cons.1 hm with e | hm
    ·exact h e.symm
    ·exact h5 hm
theorem split_l0 (c : UInt8) : ∀ (n : Nat) (s : ByteArray) (k : Nat) (acc : List ByteArray), s.size ≤ n → s.size ≤ 281474976710655 → n + 2 < k → acc.length + s.size + 1 < 8796093022208 →
  cron_zzSplit.l0 k s (ba [c]) acc = some (acc ++ splitB c s) := by
 intro n;induction n with
 | zero =>
  intro s k acc hn hs hk hl;obtain ⟨k, rfl⟩ : ∃ m, k = m + 1 := ⟨k - 1, by omega⟩
  simp only [cron_zzSplit.l0];rcases index_l0 c s hs s.size k 0 (by omega) (by omega) (by omega) with ⟨h1, h2⟩ | ⟨j, h1, h2, h3, _⟩
  ·unfold cron_zzIndex.f;rw [show ((0 : Nat) : Int) = 0 from rfl] at h1;rw [h1];simp only [Option.bind_some];rw [if_pos (by omega), if_pos (by omega)];rw [List.drop_zero] at h2;rw [splitB, splitL_none h2];simp [ba_of]
  ·omega
 | succ n ih =>
  intro s k acc hn hs hk hl;obtain ⟨k, rfl⟩ : ∃ m, k = m + 1 := ⟨k - 1, by omega⟩
  simp only [cron_zzSplit.l0];rcases index_l0 c s hs s.size k 0 (by omega) (by omega) (by omega) with ⟨h1, h2⟩ | ⟨j, h1, h2, h3, p, q, h4, h5, h6⟩
  ·unfold cron_zzIndex.f;rw [show ((0 : Nat) : Int) = 0 from rfl] at h1;rw [h1];simp only [Option.bind_some];rw [if_pos (by omega), if_pos (by omega)];rw [List.drop_zero] at h2;rw [splitB, splitL_none h2];simp [ba_of]
  ·unfold cron_zzIndex.f;rw [show ((0 : Nat) : Int) = 0 from rfl] at h1;rw [h1];simp only [Option.bind_some, ba_size, List.length_singleton];have hw : wrap64 ((j : Int) + ((1 : Nat) : Int)) = ((j + 1 : Nat) : Int) := by rw [wrap_in (by omega) (by omega)]; omega
   rw [if_neg (by omega), if_pos (by omega), if_pos (by omega), if_pos (by omega), hw, if_pos (by omega), if_pos (by omega), Int.toNat_natCast, Int.toNat_natCast];rw [List.drop_zero] at h4;have hsz : (s.extract (j + 1) s.size).size = s.size - (j + 1) := by simp
   rw [ih _ k _ (by omega) (by omega) (by omega) (by simp; omega)]
   have e1 : s.extract 0 j = ba p := by
    rw [extract_ba, h4];congr 1
    simp;rw [List.take_append_of_le_length (by omega), List.take_of_length_le (by omega)]
   have e2 : s.extract (j + 1) s.size = ba q := by
    rw [extract_ba, size_list, List.take_length, h4];congr 1
    rw [show j + 1 = p.length + 1 by omega, List.drop_append];simp
   rw [e1, e2]
   have e3 : splitB c s = ba p :: splitB c (ba q) := by
    rw [splitB, h4, splitL_at q h5, splitB, ba_list];rfl
   rw [e3];simp
theorem split_f (c : UInt8) (s : ByteArray) (hs : s.size ≤ 8796093022206) : Ev (fun k => cron_zzSplit.f k s (ba [c])) (splitB c s) := by
 refine ⟨s.size + 3, fun k hk => ?_⟩;unfold cron_zzSplit.f;show cron_zzSplit.l0 k s (ba [c]) [] = _
 rw [split_l0 c s.size s k [] (by omega) (by omega) (by omega) (by simp; omega)];simp
structure Texts (w : World) (g n cap : Nat) (l : List ByteArray) : Prop where
 len : n = l.length
 le : n ≤ cap
 lt : g < w.heap.size
 at_ : ∀ (i : Nat) x, l[i]? = some x → w.cell? ⟨g, i, none⟩ = some (.string x)
theorem Texts.below {w w' : World} {g n cap : Nat} {l : List ByteArray} (h : Texts w g n cap l) (hb : Below w.heap.size w w') : Texts w' g n cap l :=
 ⟨h.len, h.le, Nat.lt_of_lt_of_le h.lt hb.size, fun i x hx => (hb.cell (p := ⟨g, i, none⟩) h.lt).trans (h.at_ i x hx)⟩
theorem texts_of_R {e : Nat} {w : World} {base : Nat} {ok : Nat → Prop} {v : Value} {l : List ByteArray} (h : Kd.R Kd.string e w base ok v l) (hne : l ≠ []) :
  ∃ g n cap, v = .slice (some ⟨g, 0, none⟩) n cap ∧ base ≤ g ∧ Texts w g n cap l := by
 have ho := Kd.own_of_R h;obtain ⟨_, h1 | ⟨g, cap, cur, rfl, hg, hb, hn, hc, hs, ht⟩⟩ := ho
 ·exact absurd (List.length_eq_zero_iff.1 h1.2) hne
 ·refine ⟨g, _, cap, rfl, hg, rfl, hn, ?_, fun i x hx => ?_⟩
  ·exact (Array.getElem?_eq_some_iff.1 hb).1
  ·have hi : i < l.length := (List.getElem?_eq_some_iff.1 hx).1;have := (Kd.R_cell ByteArray.empty h (i : Int) (by omega) (by omega)).1;rw [Int.toNat_natCast] at this;rw [this];simp only [rdOf, Int.toNat_natCast, List.getD_eq_getElem?_getD, hx, Option.getD_some]
theorem zzSplit_any (c : UInt8) (s : ByteArray) (hs : s.size ≤ 8796093022206) (w : World) :
  Calls Tryz.prog 179 #[.string s, .string (ba [c])] w fun e w' => ∃ g n cap, e = .returned (.slice (some ⟨g, 0, none⟩) n cap) ∧ w.heap.size ≤ g ∧ Texts w' g n cap (splitB c s) ∧ Below w.heap.size w w' := by
 obtain ⟨k, hk⟩ := (split_f c s hs).rounds;refine (cron_zzSplit.calls k s (ba [c]) _ w hk).mono ?_;rintro e w' ⟨v, rfl, hR, hb⟩;obtain ⟨g, n, cap, rfl, hg, ht⟩ := texts_of_R hR (splitB_ne c s);exact ⟨g, n, cap, rfl, hg, ht, hb⟩
end Go.Proofs.YtmecbmgfacpecaaGreatDoor.Text
namespace Go.Proofs.YtmecbmgfacpecaaGreatDoor.Bits
open Go
def mkBits (p : Nat → Bool) : Nat → Nat
 | 0 => 0
 | n + 1 => mkBits p n + if p n then 2 ^ n else 0
theorem mkBits_lt (p : Nat → Bool) (n : Nat) : mkBits p n < 2 ^ n := by
 induction n with
 | zero => simp [mkBits]
 | succ n ih =>
  unfold mkBits;rw [Nat.pow_succ];split <;> omega
theorem mkBits_test (p : Nat → Bool) (n j : Nat) : (mkBits p n).testBit j = (decide (j < n) && p j) := by
 induction n with
 | zero => simp [mkBits]
 | succ n ih =>
  unfold mkBits;have hl := mkBits_lt p n;by_cases hp : p n = true
  ·rw [if_pos hp];by_cases h : j = n
   ·subst h;rw [show mkBits p j + 2 ^ j = 2 ^ j + mkBits p j by omega, Nat.testBit_two_pow_add_eq, ih];simp [hp]
   ·by_cases h2 : j < n
    ·rw [show mkBits p n + 2 ^ n = 2 ^ n + mkBits p n by omega, Nat.testBit_two_pow_add_gt h2, ih];simp [h2, Nat.lt_succ_of_lt h2]
    ·have h3 : n + 1 ≤ j := by omega
     have h4 : ¬ j < n + 1 := by omega
     rw [Nat.testBit_lt_two_pow]
     ·simp [h4]
     ·calc _ < 2 ^ (n + 1) := by rw [Nat.pow_succ]; omega
       _ ≤ 2 ^ j := Nat.pow_le_pow_right (by decide) h3
  ·rw [if_neg hp, Nat.add_zero, ih];by_cases h : j = n
   ·subst h; simp [hp]
   ·have : (j < n) = (j < n + 1) := by apply propext; omega
    simp [this]
theorem mkBits_ext {p q : Nat → Bool} (n : Nat) (h : ∀ j, j < n → p j = q j) : mkBits p n = mkBits q n := by
 apply Nat.eq_of_testBit_eq
 intro j;rw [mkBits_test, mkBits_test];by_cases hj : j < n
 ·simp [hj, h j hj]
 ·simp [hj]
theorem eq_mkBits {x n : Nat} {p : Nat → Bool} (hx : x < 2 ^ n) (h : ∀ j, j < n → x.testBit j = p j) : x = mkBits p n := by
 apply Nat.eq_of_testBit_eq
 intro j;rw [mkBits_test];by_cases hj : j < n
 ·simp [hj, h j hj]
 ·have : x < 2 ^ j := Nat.lt_of_lt_of_le hx (Nat.pow_le_pow_right (by decide) (by omega));rw [Nat.testBit_lt_two_pow this];simp [hj]
theorem mkBits_or (p q : Nat → Bool) (n : Nat) : mkBits p n ||| mkBits q n = mkBits (fun j => p j || q j) n := by
 apply eq_mkBits (Nat.or_lt_two_pow (mkBits_lt _ _) (mkBits_lt _ _))
 intro j hj;simp [mkBits_test, hj]
theorem mkBits_and (p q : Nat → Bool) (n : Nat) : mkBits p n &&& mkBits q n = mkBits (fun j => p j && q j) n := by
 apply eq_mkBits (Nat.and_lt_two_pow _ (mkBits_lt _ _))
 intro j hj;simp [mkBits_test, hj]
theorem mkBits_xor (p q : Nat → Bool) (n : Nat) : mkBits p n ^^^ mkBits q n = mkBits (fun j => p j ^^ q j) n := by
 apply eq_mkBits (Nat.xor_lt_two_pow (mkBits_lt _ _) (mkBits_lt _ _))
 intro j hj;simp [mkBits_test, hj]
theorem pow_mkBits (i n : Nat) (h : i < n) : 2 ^ i = mkBits (fun j => j == i) n := by
 apply eq_mkBits (Nat.pow_lt_pow_right (by decide) h)
 intro j _;rw [Nat.testBit_two_pow];by_cases h : j = i
 ·subst h; simp
 ·have : ¬ i = j := fun e => h e.symm
  simp [h, this]
theorem wrap_u64 (n : Int) : IntKind.u64.wrap n = n % 18446744073709551616 := by simp [IntKind.wrap, IntKind.bits, IntKind.signed]
theorem wraps_u64 (n : Int) (h₀ : 0 ≤ n) (h₁ : n < 2 ^ 64) : IntKind.u64.wrap n = n := by rw [wrap_u64]; omega
theorem and_u64 {a b : Nat} (ha : a < 2 ^ 64) (hb : b < 2 ^ 64) : bits .and .u64 (a : Int) (b : Int) = ((a &&& b : Nat) : Int) :=
 (bits_nat .u64 64 (by decide) wraps_u64 a b ha hb).1
theorem or_u64 {a b : Nat} (ha : a < 2 ^ 64) (hb : b < 2 ^ 64) : bits .or .u64 (a : Int) (b : Int) = ((a ||| b : Nat) : Int) :=
 (bits_nat .u64 64 (by decide) wraps_u64 a b ha hb).2
theorem xor_u64 {a b : Nat} (ha : a < 2 ^ 64) (hb : b < 2 ^ 64) : bits .xor .u64 (a : Int) (b : Int) = ((a ^^^ b : Nat) : Int) := by
 have ha' : a % 2 ^ 64 = a := Nat.mod_eq_of_lt ha;have hb' : b % 2 ^ 64 = b := Nat.mod_eq_of_lt hb;have e : IntKind.u64.bits = 64 := rfl;unfold bits;rw [e];show IntKind.u64.wrap ((BitVec.ofInt 64 (a : Int) ^^^ BitVec.ofInt 64 (b : Int)).toNat : Int) = _
 rw [BitVec.ofInt_natCast, BitVec.ofInt_natCast, BitVec.toNat_xor, BitVec.toNat_ofNat, BitVec.toNat_ofNat, ha', hb'];exact wraps_u64 _ (Int.natCast_nonneg _) (by exact_mod_cast Nat.xor_lt_two_pow ha hb)
theorem shl_one {i : Int} (h0 : 0 ≤ i) (h : i ≤ 63) : IntKind.u64.wrap (2 ^ i.toNat) = ((2 ^ i.toNat : Nat) : Int) := by
 rw [wraps_u64]
 ·rw [Int.natCast_pow]; rfl
 ·exact Int.pow_nonneg (by decide)
 ·have : (2 : Nat) ^ i.toNat < 2 ^ 64 := Nat.pow_lt_pow_right (by decide) (by omega);exact_mod_cast this
theorem max_table : ∀ n, n < 65 → (18446744073709551615 * 2 ^ n) % 18446744073709551616 = mkBits (fun j => decide (n ≤ j)) 64 := by decide +kernel
theorem shl_max {i : Int} (h0 : 0 ≤ i) (h : i ≤ 64) : IntKind.u64.wrap (18446744073709551615 * 2 ^ i.toNat) = ((mkBits (fun j => decide (i.toNat ≤ j)) 64 : Nat) : Int) := by
 rw [wrap_u64, ← max_table i.toNat (by omega), Int.natCast_emod, Int.natCast_mul, Int.natCast_pow];rfl
theorem max_u64 : IntKind.u64.max = ((mkBits (fun _ => true) 64 : Nat) : Int) := by decide +kernel
def steps (lo hi st : Nat) : Nat := mkBits (fun j => decide (lo ≤ j) && decide (j ≤ hi) && ((j - lo) % st == 0)) 64
theorem steps_lt (lo hi st : Nat) : steps lo hi st < 2 ^ 64 := mkBits_lt _ _
def below (lo i st : Nat) : Nat := mkBits (fun j => decide (lo ≤ j) && decide (j < i) && ((j - lo) % st == 0)) 64
theorem below_lt (lo i st : Nat) : below lo i st < 2 ^ 64 := mkBits_lt _ _
theorem below_start (lo st : Nat) : below lo lo st = 0 := by
 unfold below;rw [mkBits_ext (q := fun _ => false)]
 ·decide
 ·intro j _;by_cases h : lo ≤ j
  ·have : ¬ j < lo := by omega
   simp [this]
  ·simp [h]
theorem below_step {lo i st : Nat} (m : Nat) (hi : i = lo + m * st) (hs : 1 ≤ st) (h63 : i ≤ 63) : below lo i st ||| 2 ^ i = below lo (i + st) st := by
 unfold below;rw [pow_mkBits i 64 (by omega), mkBits_or];apply mkBits_ext
 intro j _;by_cases h1 : j < i
 ·have h2 : j < i + st := by omega
  have h3 : (j == i) = false := by simp; omega
  simp [h1, h2, h3]
 ·by_cases h2 : j = i
  ·subst h2;have : (j - lo) % st = 0 := by rw [hi]; simp
   simp [this];omega
  ·have h3 : (j == i) = false := by simpa using h2
   rw [h3, Bool.or_false];by_cases h4 : j < i + st
   ·have h5 : (j - lo) % st = j - i := by
     have : j - lo = st * m + (j - i) := by rw [Nat.mul_comm]; omega
     rw [this, Nat.mul_add_mod];exact Nat.mod_eq_of_lt (by omega)
    have h6 : ((j - lo) % st == 0) = false := by rw [h5]; simp; omega
    simp [h6]
   ·simp [h1, h4]
theorem below_end {lo i hi st : Nat} (m : Nat) (hm : i = lo + m * st) (h : hi < i) (hp : i ≤ hi + st) (hlo : lo ≤ hi) : below lo i st = steps lo hi st := by
 unfold below steps;apply mkBits_ext
 intro j _;by_cases h1 : j ≤ hi
 ·have : j < i := by omega
  simp [h1, this]
 ·by_cases h2 : j < i
  ·have h6 : ((j - lo) % st == 0) = false := by
    simp;intro e;obtain ⟨q, hq⟩ := Nat.dvd_of_mod_eq_zero e
    -- lo + q st = j, hi < j < lo + m st, so q < m, so j ≤ i - st ≤ hi
    have hj : j = lo + st * q := by omega
    have : q < m := by
     apply Nat.lt_of_not_le
     intro hmq;have := Nat.mul_le_mul_left st hmq;rw [Nat.mul_comm m st] at hm;omega
    have h7 := Nat.mul_le_mul_left st (show q + 1 ≤ m from this);rw [Nat.mul_add, Nat.mul_one] at h7;rw [Nat.mul_comm m st] at hm;omega
   simp [h6]
  ·simp [h1, h2]
theorem steps_one (lo hi : Nat) (h : hi ≤ 63) : bits .and .u64 (bits .xor .u64 IntKind.u64.max (IntKind.u64.wrap (18446744073709551615 * 2 ^ ((hi : Int) + 1).toNat))) (IntKind.u64.wrap (18446744073709551615 * 2 ^ (lo : Int).toNat)) = (steps lo hi 1 : Int) ∨ 64 < lo := by
 by_cases hl : lo ≤ 64
 ·left
  rw [shl_max (by omega) (by omega), shl_max (by omega) (by omega), max_u64, xor_u64 (mkBits_lt _ _) (mkBits_lt _ _), mkBits_xor, and_u64 (mkBits_lt _ _) (mkBits_lt _ _), mkBits_and];congr 1
  apply mkBits_ext
  intro j _;by_cases a : lo ≤ j <;> by_cases b : j ≤ hi
  ·have h1 : j < hi + 1 := by omega
   simp [a, b, h1, Nat.mod_one]
  ·have h1 : hi + 1 ≤ j := by omega
   simp [a, b]; omega
  ·simp [a]
  ·simp [a]
 ·right; omega
end Go.Proofs.YtmecbmgfacpecaaGreatDoor.Bits
