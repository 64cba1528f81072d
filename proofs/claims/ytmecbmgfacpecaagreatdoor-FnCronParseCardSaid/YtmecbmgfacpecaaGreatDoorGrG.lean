/- Lemmas and walks on the way to the law, merged by wip/tools/pack.py: CronSix, Words, PlainText, ParseCron, Meaning, Float. Conditions: none. -/
import Derived.Test.YtmecbmgfacpecaaGreatDoorGrF
import Derived.Laws.CopyRow
import Derived.Test.YtmecbmgfacpecaaGreatDoorGrD
import Derived.Test.YtmecbmgfacpecaaGreatDoorPrB
import Derived.Test.YtmecbmgfacpecaaGreatDoorPrA
import Derived.Test.YtmecbmgfacpecaaGreatDoorGrE
import Derived.Laws.Rows
import Derived.Laws.Tables
import Derived.Laws.ResultCell
import Derived.WalkKit
import Derived.WalkLawsBesides
namespace Go.Proofs.YtmecbmgfacpecaaGreatDoor.Cron
open Go Go.RowKit Go.Proofs.YtmecbmgfacpecaaGreatDoor.Text Go.Proofs.YtmecbmgfacpecaaGreatDoor.Bits Go.Proofs.YtmecbmgfacpecaaGreatDoorW.PrintWords Go.Proofs.YtmecbmgfacpecaaGreatDoorW.PrintLast Go.Proofs.YtmecbmgfacpecaaGreatDoorW.PrintMore Go.Proofs.YtmecbmgfacpecaaGreatDoor.Pr
set_option linter.unusedVariables false
set_option linter.unusedSimpArgs false
def RowN (w : World) (g : Nat) (T : TypeId) (n : Nat) : Prop := ∃ cs : Array Value, w.heap[g]? = some (.cells cs T (0, 0)) ∧ cs.size = n ∧ cs.all (·.oneCell') = true
theorem RowN.lt {w : World} {g : Nat} {T : TypeId} {n : Nat} (h : RowN w g T n) : g < w.heap.size := by
 obtain ⟨cs, h1, _⟩ := h;exact (Array.getElem?_eq_some_iff.1 h1).1
theorem RowN.below {w w' : World} {g : Nat} {T : TypeId} {n : Nat} (h : RowN w g T n) (hb : Below w.heap.size w w') : RowN w' g T n := by
 have hl := h.lt;obtain ⟨cs, h1, h2⟩ := h;exact ⟨cs, (hb.block g hl).trans h1, h2⟩
noncomputable def zeroF : Array Value := (Tryz.prog.built 88 []).getD #[]
theorem builtF : Tryz.prog.built 88 [] = some zeroF := by kernel_rfl
theorem zeroF_size : zeroF.size = 384 := by kernel_rfl
theorem zeroF_one : zeroF.all (·.oneCell') = true := by kernel_rfl
theorem sizeF : (Tryz.prog.info? 88).map (·.size) = some 384 := by kernel_rfl
theorem run_alloc_F (w : World) : (Instr.alloc 88 true (.tuple #[])).run Tryz.prog w = .ok (.pointer (some ⟨w.heap.size, 0, none⟩)) (w.alloc (.cells zeroF 88 (0, 0))) := by kernel_rfl
theorem zeroF_row (w : World) : RowN (w.alloc (.cells zeroF 88 (0, 0))) w.heap.size 88 384 := ⟨zeroF, heap_alloc_new w _, zeroF_size, zeroF_one⟩
section
variable {P : Program}
theorem run_storeVar_at (w : World) (g o : Nat) (t ty : TypeId) (cur cells : Array Value) (hg : w.heap[g]? = some (.cells cur t (0, 0))) (hfit : o + cells.size ≤ cur.size) (hi : (P.info? ty).map (·.size) = some cells.size)
  (h1 : cells.all (·.oneCell') = true) :
  (storeVar ty ⟨g, o, none⟩ (.agg cells)).run P w = .ok () (w.setRow g (cur.toList.take o ++ cells.toList ++ cur.toList.drop (o + cells.size)).toArray) := by
 have := run_storeCells_at P g o t cells.toList 0 cur w hg (by simpa using hfit) (fun v hv => (Array.all_eq_true_iff_forall_mem.1 h1) v (by simpa using hv))
 cases hq : P.info? ty with
 | none => simp [hq] at hi
 | some i =>
  have hs : cells.size = i.size := by simp [hq] at hi; omega
  simp only [Nat.add_zero, Array.length_toList] at this;simp [storeVar, sizeOf, typeInfo, hq, Value.cells, hs];rw [← hs]
  simpa [List.append_assoc] using this
theorem wp_store_at {o : Oper} {a : Act} {w : World} {K : Act → World → Prop} {Q : Exit → Act → World → Prop} (ty : TypeId) (x y : Operand) (ho : o.op = .store ty x y)
  (g of : Nat) (cells : Array Value) (hx : a.eval x = .pointer (some ⟨g, of, none⟩)) (hy : a.eval y = .agg cells)
  (t : TypeId) (cur : Array Value) (hg : w.heap[g]? = some (.cells cur t (0, 0))) (hi : (P.info? ty).map (·.size) = some cells.size)
  (hfit : of + cells.size ≤ cur.size) (h1 : cells.all (·.oneCell') = true)
  (h : K (a.put o.dst undef) (w.setRow g (cur.toList.take of ++ cells.toList ++ cur.toList.drop (of + cells.size)).toArray)) : o.wp P a w K Q := by
 unfold Oper.wp execOp;simp only [ho, hx, hy, Instr.storeAt, Instr.sureAddr, Sem.run_bind, Sem.run_pure, Result.andThen_ok, run_storeVar_at w g of t ty cur cells hg hfit hi h1];exact h
end
theorem row_at {w : World} {g o n : Nat} {T : TypeId} {cur cells : Array Value} (hg : w.heap[g]? = some (.cells cur T (0, 0))) (hn : cur.size = n) (h1 : cur.all (·.oneCell') = true) (hfit : o + cells.size ≤ cur.size) (h2 : cells.all (·.oneCell') = true) :
  RowN (w.setRow g (cur.toList.take o ++ cells.toList ++ cur.toList.drop (o + cells.size)).toArray) g T n := by
 refine ⟨_, setRow_heap w g _ _ _ _ hg, ?_, ?_⟩
 ·simp;omega
 ·rw [Array.all_eq_true_iff_forall_mem] at h1 h2 ⊢
  intro v hv;simp only [List.mem_toArray, List.mem_append] at hv
  rcases hv with (hv | hv) | hv
  ·exact h1 v (by simpa using List.mem_of_mem_take hv)
  ·exact h2 v (by simpa using hv)
  ·exact h1 v (by simpa using List.mem_of_mem_drop hv)
theorem RowN.other {w : World} {g k n : Nat} {T : TypeId} (h : RowN w g T n) (hk : g ≠ k) (cs : Array Value) : RowN (w.setRow k cs) g T n := by
 obtain ⟨c, h1, h2⟩ := h;exact ⟨c, (setRow_other w k g cs hk).trans h1, h2⟩
theorem results_F {fn : Func} {p u : Tmp} (h : fn.results = #[.cell p 88, .tmp u]) (tmps : Array Value) (w : World) (g : Nat) (cs : Array Value) (hn : cs.size = 384)
  (hp : tmps.getD p undef = .pointer (some ⟨g, 0, none⟩)) (hs : w.heap[g]? = some (.cells cs 88 (0, 0))) :
  (results fn tmps).run Tryz.prog w = .ok (.tuple #[.agg cs, tmps.getD u undef]) w := by
 rw [results_cell_tmp h, hp];simp only [asAddr, Sem.run_pure, Result.andThen_ok, run_loadVar_row w g _ _ _ _ _ hs Tryz.underlying88 rfl (by rw [sizeF, hn])]
section
variable {ops : Array Oper} {rest : List Oper} {o : Oper} {a : Act} {w : World} {Q : Exit → Act → World → Prop}
theorem wpList_build_F (hg : o.guard = none) (ho : o.op = .build 88 #[])
  (h : wpList Tryz.prog ops Q rest (a.put o.dst (.agg zeroF)) w) : wpList Tryz.prog ops Q (o :: rest) a w := by
 have e : ((#[] : Array (Nat × Operand)).map fun (i, x) => (i, a.eval x)).toList = [] := by simp
 refine wpList_build hg 88 #[] ho (by rw [e, builtF]; exact Option.isSome_some) ?_;rw [e, builtF, Option.getD_some];exact h
end
theorem new_of {B : Nat} {wo W : World} (h : Below B wo W) : IsSet (W.alloc (.cells (setCells false noSet) 56 (0, 0))) W.heap.size false noSet := isSet_new W false noSet
theorem exec_alloc_set (ev : Operand → Value) (oi : Oper) (w : World) (ho : oi.op = .alloc 56) :
  (execOp ev oi).run Tryz.prog w = .ok (.value (.pointer (some ⟨w.heap.size, 0, none⟩))) (w.alloc (.cells (setCells false noSet) 56 (0, 0))) := by
 have := run_alloc_set w;unfold execOp;rw [ho];simp only [Sem.run_bind, Sem.run_pure, Result.andThen_ok, this]
theorem exec_load_set (ev : Operand → Value) (oi : Oper) (w : World) (x : Operand) (g : Nat) (st : Bool) (q : Nat → Bool) (ho : oi.op = .load 56 x) (hx : ev x = .pointer (some ⟨g, 0, none⟩)) (hs : IsSet w g st q) :
  (execOp ev oi).run Tryz.prog w = .ok (.value (.agg (setCells st q))) w := by
 have := run_load_set w g st q hs;unfold execOp;simp only [ho, hx, Instr.loadAt, Instr.sureAddr, Sem.run_bind, Sem.run_pure, Result.andThen_ok, this]
end Go.Proofs.YtmecbmgfacpecaaGreatDoor.Cron
namespace Go.Proofs.YtmecbmgfacpecaaGreatDoor.Cron
open Go Go.RowKit Go.Proofs.YtmecbmgfacpecaaGreatDoor.Text Go.Proofs.YtmecbmgfacpecaaGreatDoorW.PrintWords Go.Proofs.YtmecbmgfacpecaaGreatDoorW.PrintLast Go.Proofs.YtmecbmgfacpecaaGreatDoorW.PrintMore Go.Proofs.YtmecbmgfacpecaaGreatDoor.Pr
set_option linter.unusedVariables false
set_option linter.unusedSimpArgs false
def Ascii (s : ByteArray) : Prop := ∀ c ∈ s.data.toList, c.toNat < 128
theorem blank_f (n : Nat) (h : n < 128) : spec_cronBlank.f (n : Int) = some (spaceZ n) := by
 unfold spec_cronBlank.f
 by_cases h32 : n = 32
 ·subst h32; rfl
 ·rw [if_neg (by omega)]
  by_cases h9 : 9 ≤ n
  ·rw [if_pos (by omega)]
   congr 1
   unfold spaceZ;rw [Bool.eq_iff_iff];simp only [decide_eq_true_eq];omega
  ·rw [if_neg (by omega)]
   congr 1
   unfold spaceZ
   symm
   apply decide_eq_false
   omega
def frm : Option Nat → Int
 | none => -1
 | some a => (a : Int)
theorem frm_none : frm none = -1 := rfl
theorem frm_some (a : Nat) : frm (some a) = (a : Int) := rfl
theorem words_l0 (s : ByteArray) (hs : s.size ≤ 4294967296) (ha : Ascii s) : ∀ (d i : Nat) (st : Option Nat) (acc : List (Nat × Nat)) (k : Nat), s.size - i = d → i ≤ s.size → 2 * d < k → (∀ a, st = some a → a < i) → acc.length ≤ i →
  spec_CronWords.l0 k s (acc.map (spanBa s)) (frm st) (s.size : Int) (i : Int) = some ((Lib.closeSpans s (Lib.spansFromP spaceZ s d i st acc)).map (spanBa s))
 | 0, i, st, acc, k, hd, hi, hk, hst, hac => by
  obtain ⟨k, rfl⟩ : ∃ m, k = m + 1 := ⟨k - 1, by omega⟩
  unfold spec_CronWords.l0 Lib.spansFromP Lib.closeSpans;rw [if_neg (by omega)]
  cases st with
  | none =>
   rw [frm_none, if_neg (by omega)]
  | some a =>
   have := hst a rfl;rw [frm_some, if_pos (by omega), if_pos (by omega), if_pos (by omega), if_pos (by rw [List.length_map]; omega), Int.toNat_natCast];simp [spanBa]
 | d + 1, i, st, acc, k, hd, hi, hk, hst, hac => by
  obtain ⟨k, rfl⟩ : ∃ m, k = m + 2 := ⟨k - 2, by omega⟩
  have hlt : i < s.size := by omega
  have hl : i < s.data.toList.length := by rw [← size_list]; exact hlt
  have hw : wrap64 ((i : Int) + 1) = ((i + 1 : Nat) : Int) := by
   unfold wrap64;omega
  have hbt := bt_list s i hl;have hget := List.getElem?_eq_getElem hl;have hc := ha _ (List.getElem_mem hl);generalize s.data.toList[i] = c at *;have hb := blank_f c.toNat hc;rw [← hbt] at hb;have hdec := (dec_at c hc s i hlt).1 hget;unfold spec_CronWords.l0 Lib.spansFromP;rw [if_pos (by omega), if_pos (by omega), if_pos (by omega), hb, if_pos hlt, hdec];simp only [Option.bind_some]
  cases hsp : spaceZ c.toNat with
  | true =>
   rw [hsp] at hb;rw [if_pos rfl, if_pos rfl];unfold spec_CronWords.j1
   cases st with
   | none =>
    have hf : decide (frm none ≥ 0) = false := by decide
    rw [hf, if_neg (by decide), if_pos (by omega), if_pos (by omega), hb];simp only [Option.bind_some, if_true];rw [hw];exact words_l0 s hs ha d (i + 1) none acc k (by omega) (by omega) (by omega) (fun a h => by cases h) (by omega)
   | some a =>
    have hai := hst a rfl;have hf : decide (frm (some a) ≥ 0) = true := decide_eq_true (by rw [frm_some]; omega);rw [hf, if_pos rfl];rw [frm_some, if_pos (by omega), if_pos (by omega), if_pos (by omega), if_pos (by rw [List.length_map]; omega), hw, Int.toNat_natCast, Int.toNat_natCast];have := words_l0 s hs ha d (i + 1) none (acc ++ [(a, i)]) k (by omega) (by omega) (by omega) (fun a h => by cases h) (by simp; omega);simp only [List.map_append, List.map_cons, List.map_nil, spanBa, frm_none] at this ⊢
    exact this
  | false =>
   rw [hsp] at hb;rw [if_neg (by decide), if_neg (by decide)];unfold spec_CronWords.j1;rw [if_neg (by decide), if_pos (by omega), if_pos (by omega), hb];simp only [Option.bind_some];rw [if_neg (by decide)]
   cases st with
   | none =>
    rw [frm_none, if_pos (by omega), hw];exact words_l0 s hs ha d (i + 1) (some i) acc k (by omega) (by omega) (by omega) (fun a h => by injection h with h; omega) (by omega)
   | some a =>
    have hai := hst a rfl;rw [frm_some, if_neg (by omega), hw];exact words_l0 s hs ha d (i + 1) (some a) acc k (by omega) (by omega) (by omega) (fun a' h => by injection h with h; omega) (by omega)
theorem words_f (s : ByteArray) (hs : s.size ≤ 4294967296) (ha : Ascii s) : ∃ k, spec_CronWords.f k s = some (fieldsZ s) := by
 refine ⟨2 * s.size + 1, ?_⟩;unfold spec_CronWords.f;have := words_l0 s hs ha s.size 0 none [] (2 * s.size + 1) (by omega) (by omega) (by omega) (fun a h => by cases h) (by simp);exact this
end Go.Proofs.YtmecbmgfacpecaaGreatDoor.Cron
namespace Go.Proofs.YtmecbmgfacpecaaGreatDoor.Cron
open Go Go.RowKit Go.Proofs.YtmecbmgfacpecaaGreatDoor.Text Go.Proofs.YtmecbmgfacpecaaGreatDoorW.PrintWords Go.Proofs.YtmecbmgfacpecaaGreatDoorW.PrintLast Go.Proofs.YtmecbmgfacpecaaGreatDoorW.PrintMore Go.Proofs.YtmecbmgfacpecaaGreatDoor.Pr
set_option linter.unusedVariables false
set_option linter.unusedSimpArgs false
theorem begins_eq (s t : ByteArray) : (if (s.size : Int) ≥ (t.size : Int) then (if 0 ≤ (t.size : Int) then (if (t.size : Int) ≤ (s.size : Int) then (some ((s.extract 0 ((t.size : Int) : Int).toNat).toList == t.toList)) else (none)) else (none)) else (some false)) = some (Lib.hasPrefix s.data.toList t.data.toList) := by
 have key : Lib.hasPrefix s.data.toList t.data.toList = decide (t.data.toList = s.data.toList.take t.data.toList.length) := by
  rw [Bool.eq_iff_iff, decide_eq_true_iff];unfold Lib.hasPrefix;rw [List.isPrefixOf_iff_prefix, List.prefix_iff_eq_take]
 by_cases h : (s.size : Int) ≥ (t.size : Int)
 ·rw [if_pos h, if_pos (by omega), if_pos (by omega), Int.toNat_natCast, toList_data, toList_data, extract_list, List.drop_zero, key]
  congr 1
  rw [Bool.eq_iff_iff, decide_eq_true_iff, beq_iff_eq, size_list];exact eq_comm
 ·rw [if_neg h, key]
  congr 1
  symm
  apply decide_eq_false
  intro he;have := congrArg List.length he;rw [List.length_take, ← size_list, ← size_list] at this;omega
theorem begins_f (s t : ByteArray) : spec_cronBegins.f s t = some (Lib.hasPrefix s.data.toList t.data.toList) := begins_eq s t
def zoneZ (s : ByteArray) : Nat := if Lib.hasPrefix s.data.toList [84, 90, 61] = true then 3 else if Lib.hasPrefix s.data.toList [67, 82, 79, 78, 95, 84, 90, 61] = true then 8 else 0
set_option maxRecDepth 100000 in
theorem zoneHead_any (s : ByteArray) (w : World) :
  Calls Tryz.prog 42 #[.string s] w fun e w' => e = .returned (.int .i64 (zoneZ s : Nat)) ∧ Below w.heap.size w w' := by
 have HT := Lib.hid (fun w' => spec_cronBegins.calls s ⟨#[84, 90, 61]⟩ _ w' (begins_f s ⟨#[84, 90, 61]⟩));have HC := Lib.hid (fun w' => spec_cronBegins.calls s ⟨#[67, 82, 79, 78, 95, 84, 90, 61]⟩ _ w' (begins_f s ⟨#[67, 82, 79, 78, 95, 84, 90, 61]⟩));have hi0 : ∀ w', (Instr.index 162 (.agg #[.string ⟨#[84, 90, 61]⟩, .string ⟨#[67, 82, 79, 78, 95, 84, 90, 61]⟩]) (.int .i64 0)).run Tryz.prog w' = .ok (.string ⟨#[84, 90, 61]⟩) w' := fun w' => by kernel_rfl
 have hi1 : ∀ w', (Instr.index 162 (.agg #[.string ⟨#[84, 90, 61]⟩, .string ⟨#[67, 82, 79, 78, 95, 84, 90, 61]⟩]) (.int .i64 1)).run Tryz.prog w' = .ok (.string ⟨#[67, 82, 79, 78, 95, 84, 90, 61]⟩) w' := fun w' => by kernel_rfl
 unfold zoneZ;dsimp only at HT HC
 generalize Lib.hasPrefix s.data.toList [84, 90, 61] = b1 at *;generalize Lib.hasPrefix s.data.toList [67, 82, 79, 78, 95, 84, 90, 61] = b2 at *
 go_enter Tryz.func42, Tryz.ntmps42
 go_wp2_with fail
 go_loopw [6] (fun v6 wr => ∃ (k : Nat), v6 = .int .i64 k ∧ k ≤ 2 ∧ Hid (k ≥ 1 → b1 = false) ∧ Hid (k ≥ 2 → b2 = false) ∧ Below w.heap.size w wr) (fun v6 _ => 2 - (intOf v6).toNat)
 case atStart => exact ⟨0, rfl, by omega, Lib.hid (fun h => by omega), Lib.hid (fun h => by omega), Below.refl _ _⟩
 case round =>
  obtain ⟨k, rfl, hk, H1, H2, hbr⟩ := hrel
  by_cases h0 : k = 0
  ·subst h0
   go_wp2_with fail
   refine (HT.out _).mono ?_;rintro e w1 ⟨rfl, hd1⟩;have hb1 := below_of_le hbr hd1.below;clear hd1
   cases b1 with
   | true =>
    go_wp2_with fail
    go_ret
    exact ⟨rfl, hb1⟩
   | false =>
    go_wp2_with fail
    go_roundw
    case rel => exact ⟨1, by go_num, by omega, Lib.hid (fun _ => by first | trivial | rfl), Lib.hid (fun h => by omega), hb1⟩
    case measure => simp [intOf]
  ·by_cases h1 : k = 1
   ·subst h1;have := H1.out (by omega);subst this
    go_wp2_with fail
    refine (HC.out _).mono ?_;rintro e w1 ⟨rfl, hd1⟩;have hb1 := below_of_le hbr hd1.below;clear hd1
    cases b2 with
    | true =>
     go_wp2_with fail
     go_ret
     exact ⟨rfl, hb1⟩
    | false =>
     go_wp2_with fail
     go_roundw
     case rel => exact ⟨2, by go_num, by omega, Lib.hid (fun _ => by first | trivial | rfl), Lib.hid (fun _ => by first | trivial | rfl), hb1⟩
     case measure => simp [intOf]
   ·obtain rfl : k = 2 := by omega
    have h1 := H1.out (by omega);have h2 := H2.out (by omega);subst h1;subst h2
    go_wp2_with fail
    go_ret
    exact ⟨rfl, hbr⟩
theorem zoneZ_zero {s : ByteArray} (h : zoneZ s = 0) : Lib.hasPrefix s.data.toList [84, 90, 61] = false ∧ Lib.hasPrefix s.data.toList [67, 82, 79, 78, 95, 84, 90, 61] = false := by
 unfold zoneZ at h
 cases h1 : Lib.hasPrefix s.data.toList [84, 90, 61] with
 | true => rw [h1, if_pos rfl] at h; omega
 | false =>
  rw [h1] at h
  cases h2 : Lib.hasPrefix s.data.toList [67, 82, 79, 78, 95, 84, 90, 61] with
  | true => rw [h2] at h; simp at h
  | false => exact ⟨rfl, rfl⟩
end Go.Proofs.YtmecbmgfacpecaaGreatDoor.Cron
namespace Go.Proofs.YtmecbmgfacpecaaGreatDoor.Cron
open Go Go.RowKit Go.Proofs.YtmecbmgfacpecaaGreatDoor.Text Go.Proofs.YtmecbmgfacpecaaGreatDoor.Bits Go.Proofs.YtmecbmgfacpecaaGreatDoorW.PrintWords Go.Proofs.YtmecbmgfacpecaaGreatDoorW.PrintLast Go.Proofs.YtmecbmgfacpecaaGreatDoorW.PrintMore
set_option linter.unusedVariables false
set_option linter.unusedSimpArgs false
def schedCells (l : List Nat) : Array Value := #[.bool false, .int .i64 0, .int .u64 (l.getD 0 0 : Nat), .int .u64 (l.getD 1 0 : Nat), .int .u64 (l.getD 2 0 : Nat), .int .u64 (l.getD 3 0 : Nat), .int .u64 (l.getD 4 0 : Nat), .int .u64 (l.getD 5 0 : Nat)]
def noSched : Array Value := #[.bool false, .int .i64 0, .int .u64 0, .int .u64 0, .int .u64 0, .int .u64 0, .int .u64 0, .int .u64 0]
theorem schedSize : (Tryz.prog.info? 26).map (·.size) = some 8 := by kernel_rfl
theorem results_sched {fn : Func} {p u : Tmp} (h : fn.results = #[.cell p 26, .tmp u]) (tmps : Array Value) (w : World) (g : Nat) (cs : Array Value) (h8 : cs.size = 8)
  (hp : tmps.getD p undef = .pointer (some ⟨g, 0, none⟩)) (hs : w.heap[g]? = some (.cells cs 26 (0, 0))) :
  (results fn tmps).run Tryz.prog w = .ok (.tuple #[.agg cs, tmps.getD u undef]) w := by
 rw [results_cell_tmp h, hp];simp only [asAddr, Sem.run_pure, Result.andThen_ok, run_loadVar_row w g _ _ _ _ _ hs Tryz.underlying26 rfl (by rw [schedSize, h8])]
section
variable {ops : Array Oper} {rest : List Oper} {o : Oper} {a : Act} {w : World} {Q : Exit → Act → World → Prop}
theorem wpList_store_sched (hg : o.guard = none) (x y : Operand) (ho : o.op = .store 26 x y) (g : Nat) (cs old : Array Value)
  (hx : a.eval x = .pointer (some ⟨g, 0, none⟩)) (hy : a.eval y = .agg cs) (h8 : cs.size = 8) (h1 : cs.all (·.oneCell') = true) (h8' : old.size = 8) (hs : w.heap[g]? = some (.cells old 26 (0, 0)))
  (h : wpList Tryz.prog ops Q rest (a.put o.dst undef) (w.setRow g cs)) : wpList Tryz.prog ops Q (o :: rest) a w :=
 wpList_store_row hg 26 x y ho g _ hx hy _ _ hs (by rw [schedSize, h8]) (by rw [h8, h8']) h1 h
end
theorem sched_one (l : List Nat) : (schedCells l).all (·.oneCell') = true := by simp [schedCells, Value.oneCell']
theorem noSched_one : noSched.all (·.oneCell') = true := by simp [noSched, Value.oneCell']
theorem plainSched_bad (s : Value) (t : TypeId) (x : Value) (w : World) :
  Calls Tryz.prog 46 #[s, .iface t x] w fun e w' => e = .returned (.tuple #[.agg noSched, .bool false]) ∧ Below w.heap.size w w' := by
 go_enter Tryz.func46, Tryz.ntmps46
 go_wp2_with fail
 exact bodyPost_ret (v := .tuple #[.agg noSched, .bool false]) (by simp [results, Tryz.results46, go_sem, noSched]) rfl ⟨rfl, (Below.refl _ _).alloc (Nat.le_refl _) _⟩
set_option maxRecDepth 100000 in
theorem plainSched_ok (l : List Nat) (g : Nat) (loc : Option Addr) (w : World) (hc : w.heap[g]? = some (.cells (specCells l loc) 171 (0, 0))) :
  Calls Tryz.prog 46 #[.iface 169 (.pointer (some ⟨g, 0, none⟩)), .nilIface] w fun e w' => e = .returned (.tuple #[.agg (schedCells l), .bool true]) ∧ Below w.heap.size w w' := by
 have hlt : g < w.heap.size := (Array.getElem?_eq_some_iff.1 hc).1;have c0 : w.cell? ⟨g, 0, none⟩ = some (.int .u64 (l.getD 0 0 : Nat)) := cell_of_row _ _ _ _ _ _ hc;have c1 : w.cell? ⟨g, 1, none⟩ = some (.int .u64 (l.getD 1 0 : Nat)) := cell_of_row _ _ _ _ _ _ hc;have c2 : w.cell? ⟨g, 2, none⟩ = some (.int .u64 (l.getD 2 0 : Nat)) := cell_of_row _ _ _ _ _ _ hc;have c3 : w.cell? ⟨g, 3, none⟩ = some (.int .u64 (l.getD 3 0 : Nat)) := cell_of_row _ _ _ _ _ _ hc;have c4 : w.cell? ⟨g, 4, none⟩ = some (.int .u64 (l.getD 4 0 : Nat)) := cell_of_row _ _ _ _ _ _ hc;have c5 : w.cell? ⟨g, 5, none⟩ = some (.int .u64 (l.getD 5 0 : Nat)) := cell_of_row _ _ _ _ _ _ hc;unfold schedCells;clear hc;generalize l.getD 0 0 = a0 at *;generalize l.getD 1 0 = a1 at *;generalize l.getD 2 0 = a2 at *;generalize l.getD 3 0 = a3 at *;generalize l.getD 4 0 = a4 at *;generalize l.getD 5 0 = a5 at *;have hta : ∀ (v : Value) (w : World), (Instr.typeAssert (.iface 169 v) 110 169 true).run Tryz.prog w = .ok (.tuple #[v, .bool true]) w := fun v w => by rfl
 go_enter Tryz.func46, Tryz.ntmps46
 go_wp2_with fail
 generalize hW : World.alloc w _ = w1;have hB1 : Below w.heap.size w w1 := by rw [← hW]; exact (Below.refl _ _).alloc (Nat.le_refl _) _
 have hrow : w1.heap[w.heap.size]? = some (.cells noSched 26 (0, 0)) := by rw [← hW]; exact heap_alloc_new w _
 clear hW;have d0 := (hB1.cell (p := ⟨g, 0, none⟩) hlt).trans c0;have d1 := (hB1.cell (p := ⟨g, 1, none⟩) hlt).trans c1;have d2 := (hB1.cell (p := ⟨g, 2, none⟩) hlt).trans c2;have d3 := (hB1.cell (p := ⟨g, 3, none⟩) hlt).trans c3;have d4 := (hB1.cell (p := ⟨g, 4, none⟩) hlt).trans c4;have d5 := (hB1.cell (p := ⟨g, 5, none⟩) hlt).trans c5;clear c0 c1 c2 c3 c4 c5;refine start_ (n := 27) (S := fun w' => w'.cell? ⟨g, 0, none⟩ = some (.int .u64 a0) ∧ w'.cell? ⟨g, 1, none⟩ = some (.int .u64 a1) ∧ w'.cell? ⟨g, 2, none⟩ = some (.int .u64 a2) ∧ w'.cell? ⟨g, 3, none⟩ = some (.int .u64 a3) ∧ w'.cell? ⟨g, 4, none⟩ = some (.int .u64 a4) ∧ w'.cell? ⟨g, 5, none⟩ = some (.int .u64 a5)) (ds := [25]) #[false, false, false, false, false, false, false, false, false, false, false, false, false, false, false, false, false, false, false, false, false, false, false, false, false, false, false] (by kernel_rfl) rfl rfl ⟨d0, d1, d2, d3, d4, d5⟩ (fun hHeld => ?_);refine pure_ (i := 0) (N := some 15) (v := ?_) (a' := ?_) #[true, false, false, false, false, false, false, false, false, false, false, false, false, false, false, false, false, false, false, false, false, false, false, false, false, false, false] rfl rfl (by kernel_rfl) (fun _ _ _ h => h) (Or.inl ⟨by rfl, ?_⟩) ?_ ?_;rotate_left
 ·intro w'
  go_simp
  with_reducible rfl
 rotate_left
 ·simp only [Act.put, List.setIfInBounds_toArray, List.set_cons_zero, List.set_cons_succ, i64_w, i32_w];rfl
 refine pure_ (i := 1) (N := some 16) (v := ?_) (a' := ?_) #[true, true, false, false, false, false, false, false, false, false, false, false, false, false, false, false, false, false, false, false, false, false, false, false, false, false, false] rfl rfl (by kernel_rfl) (fun _ _ _ h => h) (Or.inl ⟨by rfl, ?_⟩) ?_ ?_;rotate_left
 ·intro w'
  go_simp
  with_reducible rfl
 rotate_left
 ·simp only [Act.put, List.setIfInBounds_toArray, List.set_cons_zero, List.set_cons_succ, i64_w, i32_w];rfl
 refine pure_ (i := 2) (N := some 17) (v := ?_) (a' := ?_) #[true, true, true, false, false, false, false, false, false, false, false, false, false, false, false, false, false, false, false, false, false, false, false, false, false, false, false] rfl rfl (by kernel_rfl) (fun _ _ _ h => h) (Or.inl ⟨by rfl, ?_⟩) ?_ ?_;rotate_left
 ·intro w'
  go_simp
  with_reducible rfl
 rotate_left
 ·simp only [Act.put, List.setIfInBounds_toArray, List.set_cons_zero, List.set_cons_succ, i64_w, i32_w];rfl
 refine pure_ (i := 4) (N := some 19) (v := ?_) (a' := ?_) #[true, true, true, false, true, false, false, false, false, false, false, false, false, false, false, false, false, false, false, false, false, false, false, false, false, false, false] rfl rfl (by kernel_rfl) (fun _ _ _ h => h) (Or.inl ⟨by rfl, ?_⟩) ?_ ?_;rotate_left
 ·intro w'
  go_simp
  with_reducible rfl
 rotate_left
 ·simp only [Act.put, List.setIfInBounds_toArray, List.set_cons_zero, List.set_cons_succ, i64_w, i32_w];rfl
 refine pure_ (i := 5) (N := some 20) (v := ?_) (a' := ?_) #[true, true, true, false, true, true, false, false, false, false, false, false, false, false, false, false, false, false, false, false, false, false, false, false, false, false, false] rfl rfl (by kernel_rfl) (fun _ _ _ h => h) (Or.inl ⟨by rfl, ?_⟩) ?_ ?_;rotate_left
 ·intro w'
  go_simp
  with_reducible rfl
 rotate_left
 ·simp only [Act.put, List.setIfInBounds_toArray, List.set_cons_zero, List.set_cons_succ, i64_w, i32_w];rfl
 refine pure_ (i := 6) (N := some 21) (v := ?_) (a' := ?_) #[true, true, true, false, true, true, true, false, false, false, false, false, false, false, false, false, false, false, false, false, false, false, false, false, false, false, false] rfl rfl (by kernel_rfl) (fun _ _ _ h => h) (Or.inl ⟨by rfl, ?_⟩) ?_ ?_;rotate_left
 ·intro w'
  go_simp
  with_reducible rfl
 rotate_left
 ·simp only [Act.put, List.setIfInBounds_toArray, List.set_cons_zero, List.set_cons_succ, i64_w, i32_w];rfl
 refine pure_ (i := 8) (N := some 23) (v := ?_) (a' := ?_) #[true, true, true, false, true, true, true, false, true, false, false, false, false, false, false, false, false, false, false, false, false, false, false, false, false, false, false] rfl rfl (by kernel_rfl) (fun _ _ _ h => h) (Or.inl ⟨by rfl, ?_⟩) ?_ ?_;rotate_left
 ·intro w'
  go_simp
  with_reducible rfl
 rotate_left
 ·simp only [Act.put, List.setIfInBounds_toArray, List.set_cons_zero, List.set_cons_succ, i64_w, i32_w];rfl
 refine pure_ (i := 9) (N := some 24) (v := ?_) (a' := ?_) #[true, true, true, false, true, true, true, false, true, true, false, false, false, false, false, false, false, false, false, false, false, false, false, false, false, false, false] rfl rfl (by kernel_rfl) (fun _ _ _ h => h) (Or.inl ⟨by rfl, ?_⟩) ?_ ?_;rotate_left
 ·intro w'
  go_simp
  with_reducible rfl
 rotate_left
 ·simp only [Act.put, List.setIfInBounds_toArray, List.set_cons_zero, List.set_cons_succ, i64_w, i32_w];rfl
 refine pure_ (i := 10) (N := some 25) (v := ?_) (a' := ?_) #[true, true, true, false, true, true, true, false, true, true, true, false, false, false, false, false, false, false, false, false, false, false, false, false, false, false, false] rfl rfl (by kernel_rfl) (fun _ _ _ h => h) (Or.inl ⟨by rfl, ?_⟩) ?_ ?_;rotate_left
 ·intro w'
  go_simp
  with_reducible rfl
 rotate_left
 ·simp only [Act.put, List.setIfInBounds_toArray, List.set_cons_zero, List.set_cons_succ, i64_w, i32_w];rfl
 refine pure_ (i := 12) (N := some 27) (v := ?_) (a' := ?_) #[true, true, true, false, true, true, true, false, true, true, true, false, true, false, false, false, false, false, false, false, false, false, false, false, false, false, false] rfl rfl (by kernel_rfl) (fun _ _ _ h => h) (Or.inl ⟨by rfl, ?_⟩) ?_ ?_;rotate_left
 ·intro w'
  go_simp
  with_reducible rfl
 rotate_left
 ·simp only [Act.put, List.setIfInBounds_toArray, List.set_cons_zero, List.set_cons_succ, i64_w, i32_w];rfl
 refine pure_ (i := 13) (N := some 28) (v := ?_) (a' := ?_) #[true, true, true, false, true, true, true, false, true, true, true, false, true, true, false, false, false, false, false, false, false, false, false, false, false, false, false] rfl rfl (by kernel_rfl) (fun _ _ _ h => h) (Or.inl ⟨by rfl, ?_⟩) ?_ ?_;rotate_left
 ·intro w'
  go_simp
  with_reducible rfl
 rotate_left
 ·simp only [Act.put, List.setIfInBounds_toArray, List.set_cons_zero, List.set_cons_succ, i64_w, i32_w];rfl
 refine pure_ (i := 14) (N := some 29) (v := ?_) (a' := ?_) #[true, true, true, false, true, true, true, false, true, true, true, false, true, true, true, false, false, false, false, false, false, false, false, false, false, false, false] rfl rfl (by kernel_rfl) (fun _ _ _ h => h) (Or.inl ⟨by rfl, ?_⟩) ?_ ?_;rotate_left
 ·intro w'
  go_simp
  with_reducible rfl
 rotate_left
 ·simp only [Act.put, List.setIfInBounds_toArray, List.set_cons_zero, List.set_cons_succ, i64_w, i32_w];rfl
 refine pure_ (i := 16) (N := some 31) (v := ?_) (a' := ?_) #[true, true, true, false, true, true, true, false, true, true, true, false, true, true, true, false, true, false, false, false, false, false, false, false, false, false, false] rfl rfl (by kernel_rfl) (fun _ _ _ h => h) (Or.inl ⟨by rfl, ?_⟩) ?_ ?_;rotate_left
 ·intro w'
  go_simp
  with_reducible rfl
 rotate_left
 ·simp only [Act.put, List.setIfInBounds_toArray, List.set_cons_zero, List.set_cons_succ, i64_w, i32_w];rfl
 refine pure_ (i := 17) (N := some 32) (v := ?_) (a' := ?_) #[true, true, true, false, true, true, true, false, true, true, true, false, true, true, true, false, true, true, false, false, false, false, false, false, false, false, false] rfl rfl (by kernel_rfl) (fun _ _ _ h => h) (Or.inl ⟨by rfl, ?_⟩) ?_ ?_;rotate_left
 ·intro w'
  go_simp
  with_reducible rfl
 rotate_left
 ·simp only [Act.put, List.setIfInBounds_toArray, List.set_cons_zero, List.set_cons_succ, i64_w, i32_w];rfl
 refine pure_ (i := 18) (N := some 33) (v := ?_) (a' := ?_) #[true, true, true, false, true, true, true, false, true, true, true, false, true, true, true, false, true, true, true, false, false, false, false, false, false, false, false] rfl rfl (by kernel_rfl) (fun _ _ _ h => h) (Or.inl ⟨by rfl, ?_⟩) ?_ ?_;rotate_left
 ·intro w'
  go_simp
  with_reducible rfl
 rotate_left
 ·simp only [Act.put, List.setIfInBounds_toArray, List.set_cons_zero, List.set_cons_succ, i64_w, i32_w];rfl
 refine pure_ (i := 20) (N := some 35) (v := ?_) (a' := ?_) #[true, true, true, false, true, true, true, false, true, true, true, false, true, true, true, false, true, true, true, false, true, false, false, false, false, false, false] rfl rfl (by kernel_rfl) (fun _ _ _ h => h) (Or.inl ⟨by rfl, ?_⟩) ?_ ?_;rotate_left
 ·intro w'
  go_simp
  with_reducible rfl
 rotate_left
 ·simp only [Act.put, List.setIfInBounds_toArray, List.set_cons_zero, List.set_cons_succ, i64_w, i32_w];rfl
 refine pure_ (i := 21) (N := some 36) (v := ?_) (a' := ?_) #[true, true, true, false, true, true, true, false, true, true, true, false, true, true, true, false, true, true, true, false, true, true, false, false, false, false, false] rfl rfl (by kernel_rfl) (fun _ _ _ h => h) (Or.inl ⟨by rfl, ?_⟩) ?_ ?_;rotate_left
 ·intro w'
  go_simp
  with_reducible rfl
 rotate_left
 ·simp only [Act.put, List.setIfInBounds_toArray, List.set_cons_zero, List.set_cons_succ, i64_w, i32_w];rfl
 refine pure_ (i := 22) (N := some 37) (v := ?_) (a' := ?_) #[true, true, true, false, true, true, true, false, true, true, true, false, true, true, true, false, true, true, true, false, true, true, true, false, false, false, false] rfl rfl (by kernel_rfl) (fun _ _ _ h => h) (Or.inl ⟨by rfl, ?_⟩) ?_ ?_;rotate_left
 ·intro w'
  go_simp
  with_reducible rfl
 rotate_left
 ·simp only [Act.put, List.setIfInBounds_toArray, List.set_cons_zero, List.set_cons_succ, i64_w, i32_w];rfl
 refine take_ (i := 3) (N := some 18) (v := ?_) (a' := ?_) #[true, true, true, true, true, true, true, false, true, true, true, false, true, true, true, false, true, true, true, false, true, true, true, false, false, false, false] rfl rfl (by kernel_rfl) (fun _ _ _ h => h) (Or.inl ⟨by rfl, ?_⟩) hHeld ?_ ?_;rotate_left
 ·rintro w' ⟨s0, s1, s2, s3, s4, s5⟩
  go_simp
  with_reducible rfl
 rotate_left
 ·simp only [Act.put, List.setIfInBounds_toArray, List.set_cons_zero, List.set_cons_succ, i64_w, i32_w];rfl
 refine take_ (i := 7) (N := some 22) (v := ?_) (a' := ?_) #[true, true, true, true, true, true, true, true, true, true, true, false, true, true, true, false, true, true, true, false, true, true, true, false, false, false, false] rfl rfl (by kernel_rfl) (fun _ _ _ h => h) (Or.inl ⟨by rfl, ?_⟩) hHeld ?_ ?_;rotate_left
 ·rintro w' ⟨s0, s1, s2, s3, s4, s5⟩
  go_simp
  with_reducible rfl
 rotate_left
 ·simp only [Act.put, List.setIfInBounds_toArray, List.set_cons_zero, List.set_cons_succ, i64_w, i32_w];rfl
 refine take_ (i := 11) (N := some 26) (v := ?_) (a' := ?_) #[true, true, true, true, true, true, true, true, true, true, true, true, true, true, true, false, true, true, true, false, true, true, true, false, false, false, false] rfl rfl (by kernel_rfl) (fun _ _ _ h => h) (Or.inl ⟨by rfl, ?_⟩) hHeld ?_ ?_;rotate_left
 ·rintro w' ⟨s0, s1, s2, s3, s4, s5⟩
  go_simp
  with_reducible rfl
 rotate_left
 ·simp only [Act.put, List.setIfInBounds_toArray, List.set_cons_zero, List.set_cons_succ, i64_w, i32_w];rfl
 refine take_ (i := 15) (N := some 30) (v := ?_) (a' := ?_) #[true, true, true, true, true, true, true, true, true, true, true, true, true, true, true, true, true, true, true, false, true, true, true, false, false, false, false] rfl rfl (by kernel_rfl) (fun _ _ _ h => h) (Or.inl ⟨by rfl, ?_⟩) hHeld ?_ ?_;rotate_left
 ·rintro w' ⟨s0, s1, s2, s3, s4, s5⟩
  go_simp
  with_reducible rfl
 rotate_left
 ·simp only [Act.put, List.setIfInBounds_toArray, List.set_cons_zero, List.set_cons_succ, i64_w, i32_w];rfl
 refine take_ (i := 19) (N := some 34) (v := ?_) (a' := ?_) #[true, true, true, true, true, true, true, true, true, true, true, true, true, true, true, true, true, true, true, true, true, true, true, false, false, false, false] rfl rfl (by kernel_rfl) (fun _ _ _ h => h) (Or.inl ⟨by rfl, ?_⟩) hHeld ?_ ?_;rotate_left
 ·rintro w' ⟨s0, s1, s2, s3, s4, s5⟩
  go_simp
  with_reducible rfl
 rotate_left
 ·simp only [Act.put, List.setIfInBounds_toArray, List.set_cons_zero, List.set_cons_succ, i64_w, i32_w];rfl
 refine take_ (i := 23) (N := some 38) (v := ?_) (a' := ?_) #[true, true, true, true, true, true, true, true, true, true, true, true, true, true, true, true, true, true, true, true, true, true, true, true, false, false, false] rfl rfl (by kernel_rfl) (fun _ _ _ h => h) (Or.inl ⟨by rfl, ?_⟩) hHeld ?_ ?_;rotate_left
 ·rintro w' ⟨s0, s1, s2, s3, s4, s5⟩
  go_simp
  with_reducible rfl
 rotate_left
 ·simp only [Act.put, List.setIfInBounds_toArray, List.set_cons_zero, List.set_cons_succ, i64_w, i32_w];rfl
 refine pure_ (i := 24) (N := some 39) (v := ?_) (a' := ?_) #[true, true, true, true, true, true, true, true, true, true, true, true, true, true, true, true, true, true, true, true, true, true, true, true, true, false, false] rfl rfl (by kernel_rfl) (fun _ _ _ h => h) (Or.inl ⟨by rfl, ?_⟩) ?_ ?_;rotate_left
 ·intro w'
  go_simp
  with_reducible rfl
 rotate_left
 ·simp only [Act.put, List.setIfInBounds_toArray, List.set_cons_zero, List.set_cons_succ, i64_w, i32_w];rfl
 refine last_ (i := 25) (N := none) #[true, true, true, true, true, true, true, true, true, true, true, true, true, true, true, true, true, true, true, true, true, true, true, true, true, true, false] rfl rfl (by kernel_rfl) (by decide) (fun K hK => ?_);rw [if_pos (by rfl)];refine wp_store_row 26 _ _ rfl w.heap.size #[.bool false, .int .i64 0, .int .u64 a0, .int .u64 a1, .int .u64 a2, .int .u64 a3, .int .u64 a4, .int .u64 a5] rfl rfl 26 noSched hrow schedSize rfl (by simp [Value.oneCell']) ?_;refine hK.out _ _ ?_;clear hK K;refine pure_ (i := 26) (N := some 5) (v := ?_) (a' := ?_) #[true, true, true, true, true, true, true, true, true, true, true, true, true, true, true, true, true, true, true, true, true, true, true, true, true, true, true] rfl rfl (by kernel_rfl) (fun _ _ _ h => h) (Or.inl ⟨by rfl, ?_⟩) ?_ ?_;rotate_left
 ·intro w'
  go_simp
  with_reducible rfl
 rotate_left
 ·simp only [Act.put, List.setIfInBounds_toArray, List.set_cons_zero, List.set_cons_succ, i64_w, i32_w];rfl
 refine done_ (by kernel_rfl) ?_
 go_wp2_with fail
 refine bodyPost_ret (v := .tuple #[.agg #[.bool false, .int .i64 0, .int .u64 a0, .int .u64 a1, .int .u64 a2, .int .u64 a3, .int .u64 a4, .int .u64 a5], .bool true]) ?_ rfl ⟨rfl, ?_⟩
 ·exact results_sched (fn := Tryz.f46) (p := 4) (u := 5) rfl _ _ w.heap.size _ rfl rfl (setRow_heap _ _ _ _ _ _ hrow)
 ·exact below_setRow (hB1.drew) (Nat.le_refl _) _
theorem twoB_iff (o : Nat) : twoB o = true ↔ 0 < o &&& 128 ∧ 0 < o &&& 2 := by
 unfold twoB;rw [Bool.and_eq_true, decide_eq_true_iff, decide_eq_true_iff]
end Go.Proofs.YtmecbmgfacpecaaGreatDoor.Cron
namespace Go.Proofs.YtmecbmgfacpecaaGreatDoor.Cron
open Go Go.RowKit Go.Proofs.YtmecbmgfacpecaaGreatDoor.Text Go.Proofs.YtmecbmgfacpecaaGreatDoor.Bits Go.Proofs.YtmecbmgfacpecaaGreatDoorW.PrintWords Go.Proofs.YtmecbmgfacpecaaGreatDoorW.PrintLast Go.Proofs.YtmecbmgfacpecaaGreatDoorW.PrintMore Go.Proofs.YtmecbmgfacpecaaGreatDoor.Pr
set_option linter.unusedVariables false
set_option linter.unusedSimpArgs false
section
variable {P : Program}
theorem fold_size (off : Nat) : ∀ (l : List (Value × Nat)) (cells : Array Value), (l.foldl (fun cs (x : Value × Nat) => cs.setIfInBounds (off + x.2) x.1) cells).size = cells.size
 | [], cells => rfl
 | x :: l, cells => by rw [List.foldl_cons, fold_size off l]; simp
theorem fold_one (off : Nat) : ∀ (l : List (Value × Nat)) (cells : Array Value), (∀ x ∈ l, x.1.oneCell' = true) → (∀ v ∈ cells, v.oneCell' = true) → ∀ v ∈ l.foldl (fun cs (x : Value × Nat) => cs.setIfInBounds (off + x.2) x.1) cells, v.oneCell' = true
 | [], cells, _, h => h
 | x :: l, cells, hl, h => by
  rw [List.foldl_cons];refine fold_one off l _ (fun y hy => hl y (List.mem_cons_of_mem _ hy)) fun v hv => ?_
  rw [Array.mem_iff_getElem?] at hv;obtain ⟨i, hi⟩ := hv;rw [Array.getElem?_setIfInBounds] at hi
  split at hi
  ·split at hi
   ·cases hi; exact hl x List.mem_cons_self
   ·cases hi
  ·exact h v (Array.mem_iff_getElem?.2 ⟨i, hi⟩)
theorem fill_part {place : Nat → Option (Nat × Nat)} {z : Array Value} {i : Nat} {v0 v : Value} (h : (Instr.fill place z [(i, v0)]).isSome = true) (hs : v.cells.size = v0.cells.size) (hz : z.all (·.oneCell') = true) (hv : v.cells.all (·.oneCell') = true) :
  ∃ r, Instr.fill place z [(i, v)] = some r ∧ r.size = z.size ∧ r.all (·.oneCell') = true := by
 unfold Instr.fill at h ⊢
 cases hp : place i with
 | none => simp [hp] at h
 | some q =>
  obtain ⟨off, size⟩ := q;simp only [hp] at h ⊢
  rw [hs]
  by_cases hc : (decide (v0.cells.size ≠ size) || decide (off + v0.cells.size > z.size)) = true
  ·simp only [hc, if_true] at h;simp at h
  ·simp only [hc] at h ⊢
   simp only [Bool.false_eq_true, if_false, Instr.fill];refine ⟨_, rfl, ?_, ?_⟩
   ·rw [← Array.foldl_toList];exact fold_size off _ _
   ·rw [← Array.foldl_toList, Array.all_eq_true_iff_forall_mem];rw [Array.all_eq_true_iff_forall_mem] at hz hv
    refine fold_one off _ _ (fun x hx => ?_) hz;rw [Array.toList_zipIdx] at hx;exact hv _ (Array.mem_toList_iff.1 (List.fst_mem_of_mem_zipIdx hx))
theorem built_part {t : TypeId} {i : Nat} {z0 : Array Value} {v0 v : Value} (h0 : P.built t [] = some z0) (hv0 : (P.built t [(i, v0)]).isSome = true) (hs : v.cells.size = v0.cells.size) (hz : z0.all (·.oneCell') = true) (hv : v.cells.all (·.oneCell') = true) :
  ∃ r, P.built t [(i, v)] = some r ∧ r.size = z0.size ∧ r.all (·.oneCell') = true := by
 unfold Program.built at h0 hv0 ⊢
 cases hit : P.info? t with
 | none => simp [hit] at h0
 | some it =>
  cases hu : P.underlying t with
  | none => simp [hit, hu] at h0
  | some d =>
   cases hzz : it.zero with
   | none => cases d <;> simp [hit, hu, hzz] at h0
   | some z =>
    cases d <;> try (simp [hit, hu] at h0; done)
    case array n e =>
     cases hie : P.info? e with
     | none => simp [hit, hu, hzz, hie] at h0
     | some ie =>
      simp only [hit, hu, hzz, hie, Instr.fill, Option.some.injEq] at h0;simp only [hit, hu, hzz, hie] at hv0 ⊢
      subst h0;exact fill_part hv0 hs hz hv
    case struct fields =>
     cases hp : fields.toList.mapM (fun f => (P.info? f.type).map fun i => (f.offset, i.size)) with
     | none => simp [hit, hu, hzz, hp] at h0
     | some places =>
      simp only [hit, hu, hzz, hp, Instr.fill, Option.some.injEq] at h0;simp only [hit, hu, hzz, hp] at hv0 ⊢
      subst h0;exact fill_part hv0 hs hz hv
end
noncomputable def zeroM : Array Value := (Tryz.prog.built 99 []).getD #[]
theorem builtM : Tryz.prog.built 99 [] = some zeroM := by kernel_rfl
theorem zeroM_size : zeroM.size = 387 := by kernel_rfl
theorem zeroM_one : zeroM.all (·.oneCell') = true := by kernel_rfl
theorem sizeM : (Tryz.prog.info? 99).map (·.size) = some 387 := by kernel_rfl
theorem run_alloc_M (w : World) : (Instr.alloc 99 true (.tuple #[])).run Tryz.prog w = .ok (.pointer (some ⟨w.heap.size, 0, none⟩)) (w.alloc (.cells zeroM 99 (0, 0))) := by kernel_rfl
theorem zeroM_row (w : World) : RowN (w.alloc (.cells zeroM 99 (0, 0))) w.heap.size 99 387 := ⟨zeroM, heap_alloc_new w _, zeroM_size, zeroM_one⟩
theorem builtMF0 : (Tryz.prog.built 99 [(2, .agg zeroF)]).isSome = true := by kernel_rfl
set_option maxRecDepth 100000 in
theorem builtMF (cs : Array Value) (hn : cs.size = 384) (h1 : cs.all (·.oneCell') = true) : ∃ r, Tryz.prog.built 99 [(2, .agg cs)] = some r ∧ r.size = 387 ∧ r.all (·.oneCell') = true := by
 obtain ⟨r, h2, h3, h4⟩ := built_part (v := .agg cs) builtM builtMF0 (by show cs.size = zeroF.size; rw [hn, zeroF_size]) zeroM_one h1;exact ⟨r, h2, h3.trans zeroM_size, h4⟩
section
variable {ops : Array Oper} {rest : List Oper} {o : Oper} {a : Act} {w : World} {Q : Exit → Act → World → Prop}
theorem wpList_build_M (hg : o.guard = none) (ho : o.op = .build 99 #[])
  (h : wpList Tryz.prog ops Q rest (a.put o.dst (.agg zeroM)) w) : wpList Tryz.prog ops Q (o :: rest) a w := by
 have e : ((#[] : Array (Nat × Operand)).map fun (i, x) => (i, a.eval x)).toList = [] := by simp
 refine wpList_build hg 99 #[] ho (by rw [e, builtM]; exact Option.isSome_some) ?_;rw [e, builtM, Option.getD_some];exact h
theorem wpList_build_MF (hg : o.guard = none) (x : Operand) (ho : o.op = .build 99 #[(2, x)]) (cs r : Array Value) (hb : Tryz.prog.built 99 [(2, .agg cs)] = some r) (hx : a.eval x = .agg cs)
  (h : wpList Tryz.prog ops Q rest (a.put o.dst (.agg r)) w) : wpList Tryz.prog ops Q (o :: rest) a w := by
 have e : ((#[(2, x)] : Array (Nat × Operand)).map fun (i, x) => (i, a.eval x)).toList = [(2, .agg cs)] := by simp [hx]
 refine wpList_build hg 99 #[(2, x)] ho (by rw [e, hb]; exact Option.isSome_some) ?_;rw [e, hb, Option.getD_some];exact h
end
theorem results_M {fn : Func} {p u : Tmp} (h : fn.results = #[.cell p 99, .tmp u]) (tmps : Array Value) (w : World) (g : Nat) (cs : Array Value) (hn : cs.size = 387)
  (hp : tmps.getD p undef = .pointer (some ⟨g, 0, none⟩)) (hs : w.heap[g]? = some (.cells cs 99 (0, 0))) :
  (results fn tmps).run Tryz.prog w = .ok (.tuple #[.agg cs, tmps.getD u undef]) w := by
 rw [results_cell_tmp h, hp];simp only [asAddr, Sem.run_pure, Result.andThen_ok, run_loadVar_row w g _ _ _ _ _ hs Tryz.underlying99 rfl (by rw [sizeM, hn])]
theorem fillB_mem : ∀ (bs : List Bool) (ds fs : List ByteArray), ∀ x ∈ fillB bs ds fs, x ∈ ds ∨ x ∈ fs
 | [], _, _, x, h => by unfold fillB at h; cases h
 | b :: bs, [], _, x, h => by unfold fillB at h; cases h
 | b :: bs, d :: ds, fs, x, h => by
  unfold fillB at h
  cases b with
  | true =>
   cases fs with
   | nil =>
    simp only [if_true] at h
    rcases List.mem_cons.1 h with rfl | h
    ·exact .inl List.mem_cons_self
    ·rcases fillB_mem bs ds [] x h with h | h
     ·exact .inl (List.mem_cons_of_mem _ h)
     ·cases h
   | cons f fs =>
    simp only [if_true] at h
    rcases List.mem_cons.1 h with rfl | h
    ·exact .inr List.mem_cons_self
    ·rcases fillB_mem bs ds fs x h with h | h
     ·exact .inl (List.mem_cons_of_mem _ h)
     ·exact .inr (List.mem_cons_of_mem _ h)
  | false =>
   simp only [Bool.false_eq_true, if_false] at h
   rcases List.mem_cons.1 h with rfl | h
   ·exact .inl List.mem_cons_self
   ·rcases fillB_mem bs ds fs x h with h | h
    ·exact .inl (List.mem_cons_of_mem _ h)
    ·exact .inr h
theorem fillS_small {fs l : List ByteArray} {o : Nat} (h : fillS fs o = some l) (hf : ∀ x ∈ fs, x.size ≤ 4294967296) : ∀ x ∈ l, x.size ≤ 4294967296 := by
 have key : ∀ bs, ∀ x ∈ fillB bs defaultsL fs, x.size ≤ 4294967296 := fun bs x hx => by
  rcases fillB_mem bs _ _ x hx with h | h
  ·simp only [defaultsL, List.mem_cons, List.not_mem_nil, or_false] at h
   rcases h with rfl | rfl | rfl | rfl | rfl | rfl <;> decide
  ·exact hf x h
 unfold fillS at h
 split at h
 ·cases h; exact key _
 ·split at h
  ·cases h
  ·cases h; exact key _
def WordsAns (s : ByteArray) (w : World) (e : Ending) (w' : World) : Prop :=
 ∃ A c, e = .returned (.slice A (fieldsZ s).length c) ∧ (fieldsZ s).length ≤ c ∧ SliceOf w' A (fieldsZ s) ∧ Kd.C Kd.string w' A (fieldsZ s).length (fieldsZ s) ∧ Below w.heap.size w w'
theorem words_any (s : ByteArray) (hs : s.size ≤ 4294967296) (ha : Ascii s) (w : World) :
  Calls Tryz.prog 23 #[.string s] w (WordsAns s w) := by
 obtain ⟨k, hk⟩ := words_f s hs ha;refine (spec_CronWords.calls k s _ w hk).mono ?_;rintro e w' ⟨v, rfl, hR, hb⟩;obtain ⟨A, c, rfl, hc, hC⟩ := Kd.R_reads hR;refine ⟨A, c, rfl, hc, ?_, hC, hb⟩
 by_cases hne : fieldsZ s = []
 ·rw [hne];intro i x hx;simp at hx
 ·obtain ⟨g, n, cap, he, hg, ht⟩ := texts_of_R hR hne
  injection he with h1 h2 h3
  intro i x hx;exact ⟨g, h1, ht.lt, ht.at_ i x hx⟩
end Go.Proofs.YtmecbmgfacpecaaGreatDoor.Cron
namespace Go.Proofs.YtmecbmgfacpecaaGreatDoor.Flo
open Go Ieee
set_option linter.unusedVariables false
set_option linter.unusedSimpArgs false
def canon (n : Nat) : Datum := .number false (n * 2 ^ (52 - n.log2)) ((n.log2 : Int) - 52)
theorem log2_bounds {n : Nat} (h : 0 < n) : 2 ^ n.log2 ≤ n ∧ n < 2 ^ (n.log2 + 1) := ⟨Nat.log2_self_le (by omega), Nat.lt_log2_self⟩
theorem log2_is {n k : Nat} (h1 : 2 ^ k ≤ n) (h2 : n < 2 ^ (k + 1)) : n.log2 = k := by
 have h0 : n ≠ 0 := by have := Nat.two_pow_pos k; omega
 have a : k ≤ n.log2 := (Nat.le_log2 h0).2 h1;have b : n.log2 < k + 1 := (Nat.log2_lt h0).2 h2;omega
theorem log2_shift {n : Nat} (h : 0 < n) (k : Nat) : (n * 2 ^ k).log2 = n.log2 + k := by
 obtain ⟨h1, h2⟩ := log2_bounds h;refine log2_is ?_ ?_
 ·rw [Nat.pow_add]; exact Nat.mul_le_mul_right _ h1
 ·rw [show n.log2 + k + 1 = n.log2 + 1 + k by omega, Nat.pow_add]; exact Nat.mul_lt_mul_of_pos_right h2 (Nat.two_pow_pos k)
theorem d_binade : double.binade = 4503599627370496 := by decide +kernel
theorem d_inf : double.infRung = 9218868437227405312 := by decide +kernel
theorem d_least : double.leastPlace = -1074 := by decide +kernel
theorem d_frac : (double.fractionBits : Int) = 52 := by decide +kernel
theorem d_sign : double.signWeight = 9223372036854775808 := by decide +kernel
theorem cut_is (way : Toward) (hw : way = .even ∨ way = .zero) (K d : Nat) (hK : 0 < K) : way.cut false (K * 2 ^ d) d = K := by
 unfold Toward.cut;have hl := log2_shift hK d;have e : min d ((K * 2 ^ d).log2 + 2) = d := by omega
 simp only [e, Nat.one_shiftLeft];have h1 : K * 2 ^ d / 2 ^ d = K := Nat.mul_div_cancel _ (Nat.two_pow_pos d);have h2 : K * 2 ^ d % 2 ^ d = 0 := Nat.mul_mod_left _ _;have hp := Nat.two_pow_pos d
 rcases hw with rfl | rfl
 ·simp only [h1, h2]
  have hb : (decide (2 ^ d < 2 * 0) || (2 ^ d == 2 * 0) && (K % 2 == 1)) = false := by
   rw [decide_eq_false (by omega), show ((2 ^ d == 2 * 0) = false) from by simp];rfl
  rw [hb];rfl
 ·simp only [h1];rfl
theorem read_rung (L K n : Nat) (hL : L ≤ 52) (hK1 : 4503599627370496 ≤ K) (hK2 : K < 9007199254740992) (hK : K = n * 2 ^ (52 - n.log2)) (hLn : L = n.log2) : double.read ((L + 1022) * 4503599627370496 + K) = canon n := by
 obtain ⟨R, hR⟩ : ∃ R, R = (L + 1022) * 4503599627370496 + K := ⟨_, rfl⟩
 have e3 : R % 9223372036854775808 = R := by omega
 have e4 : R / 9223372036854775808 % 2 = 0 := by omega
 have e5 : 4503599627370496 + R % 4503599627370496 = K := by omega
 have e6 : -1074 + ((R / 4503599627370496 - 1 : Nat) : Int) = (L : Int) - 52 := by omega
 have e7 : ¬ R < 4503599627370496 := by omega
 have e8 : R < 9218868437227405312 := by omega
 rw [← hR];clear hR hK1 hK2;unfold Format.read canon;rw [d_sign, d_binade, d_inf, d_least];simp only [e3, e4];rw [if_neg e7, if_pos e8, e5, e6, hK, hLn];rfl
set_option maxHeartbeats 1000000 in
theorem nearest_exact (n : Nat) (h0 : 0 < n) (h1 : n < 2 ^ 53) (mag : Nat) (place : Int) (hv : mag * 2 ^ place.toNat = n * 2 ^ (-place).toNat) :
  double.read (double.nearest false mag place) = canon n := by
 obtain ⟨hn1, hn2⟩ := log2_bounds h0
 have hL : n.log2 ≤ 52 := by
  have : n.log2 < 53 := (Nat.log2_lt (by omega)).2 h1;omega
 have hm : mag ≠ 0 := by
  intro e;rw [e, Nat.zero_mul] at hv;have := Nat.mul_pos h0 (Nat.two_pow_pos (-place).toNat);omega
 have hlog : (mag.log2 : Int) + place = n.log2 := by
  have e1 := log2_shift (n := mag) (by omega) place.toNat;have e2 := log2_shift h0 (-place).toNat;rw [hv, e2] at e1;omega
 -- what is kept
 obtain ⟨K, hK⟩ : ∃ K, K = n * 2 ^ (52 - n.log2) := ⟨_, rfl⟩
 have hK1 : 4503599627370496 ≤ K := by
  rw [show (4503599627370496 : Nat) = 2 ^ 52 from rfl, hK, show (2 : Nat) ^ 52 = 2 ^ n.log2 * 2 ^ (52 - n.log2) by rw [← Nat.pow_add]; congr 1; omega];exact Nat.mul_le_mul_right _ hn1
 have hK2 : K < 9007199254740992 := by
  rw [show (9007199254740992 : Nat) = 2 ^ 53 from rfl, hK, show (2 : Nat) ^ 53 = 2 ^ (n.log2 + 1) * 2 ^ (52 - n.log2) by rw [← Nat.pow_add]; congr 1; omega];exact Nat.mul_lt_mul_of_pos_right hn2 (Nat.two_pow_pos _)
 have hlast : max (place + (mag.log2 : Int) - (double.fractionBits : Int)) double.leastPlace = (n.log2 : Int) - 52 := by
  rw [d_frac, d_least];omega
 have hkept : Toward.even.cut false (mag <<< (place - ((n.log2 : Int) - 52)).toNat) (((n.log2 : Int) - 52) - place).toNat = K := by
  rw [Nat.shiftLeft_eq]
  by_cases hp : (n.log2 : Int) - 52 ≤ place
  ·rw [show (((n.log2 : Int) - 52) - place).toNat = 0 by omega]
   have e : mag * 2 ^ (place - ((n.log2 : Int) - 52)).toNat = K * 2 ^ 0 := by
    rw [hK, Nat.pow_zero, Nat.mul_one]
    by_cases h2 : 0 ≤ place
    ·rw [show (place - ((n.log2 : Int) - 52)).toNat = place.toNat + (52 - n.log2) by omega, Nat.pow_add, ← Nat.mul_assoc, hv, show (-place).toNat = 0 by omega];simp
    ·rw [show place.toNat = 0 by omega, Nat.pow_zero, Nat.mul_one] at hv;rw [hv, Nat.mul_assoc, ← Nat.pow_add]
     congr 2
     omega
   rw [e];exact cut_is _ (.inl rfl) K 0 (by omega)
  ·rw [show (place - ((n.log2 : Int) - 52)).toNat = 0 by omega, Nat.pow_zero, Nat.mul_one];rw [show place.toNat = 0 by omega, Nat.pow_zero, Nat.mul_one] at hv
   have e : mag = K * 2 ^ (((n.log2 : Int) - 52) - place).toNat := by
    rw [hv, hK, Nat.mul_assoc, ← Nat.pow_add]
    congr 2
    omega
   generalize (((n.log2 : Int) - 52) - place).toNat = d at *;rw [e];exact cut_is _ (.inl rfl) K d (by omega)
 have e1 : (((n.log2 : Int) - 52) - double.leastPlace).toNat = n.log2 + 1022 := by rw [d_least]; omega
 have hw : double.nearest false mag place = (n.log2 + 1022) * 4503599627370496 + K := by
  unfold Format.nearest;rw [if_neg hm];simp only [hlast, hkept];rw [e1, d_binade, d_inf];unfold Format.word;rw [if_neg (by decide)];clear hlast hkept e1 hv hK h1 hn1 hn2 hlog;omega
 rw [hw];exact read_rung n.log2 K n hL hK1 hK2 hK rfl
def fl (n : Nat) : Nat := FloatKind.f64.nearest (n : Int)
theorem read_fl (n : Nat) (h0 : 0 < n) (h1 : n < 2 ^ 53) : double.read (fl n) = canon n := by
 unfold fl FloatKind.nearest FloatKind.encode
 show double.read (double.nearest (decide ((n : Int) < 0)) (n : Int).natAbs 0) = canon n
 rw [decide_eq_false (by omega), show (n : Int).natAbs = n from rfl];exact nearest_exact n h0 h1 n 0 rfl
def Is (n x : Nat) : Prop := double.read x = canon n
theorem is_fl {n : Nat} (h0 : 0 < n) (h1 : n < 2 ^ 53) : Is n (fl n) := read_fl n h0 h1
theorem canon_prod (a b : Nat) : (canon a).product (canon b) = some (.number false (a * 2 ^ (52 - a.log2) * (b * 2 ^ (52 - b.log2))) ((a.log2 : Int) - 52 + ((b.log2 : Int) - 52))) := rfl
theorem mul_is {a b x y : Nat} (hx : Is a x) (hy : Is b y) (ha : 0 < a) (hb : 0 < b) (hab : a * b < 2 ^ 53) (ha1 : a < 2 ^ 53) (hb1 : b < 2 ^ 53) : ∃ r, floatBits .mul .f64 x y = some r ∧ Is (a * b) r := by
 unfold floatBits
 show ∃ r, double.mul x y = some r ∧ _
 unfold Format.mul;rw [hx, hy, canon_prod];refine ⟨_, rfl, ?_⟩;have la : a.log2 < 53 := (Nat.log2_lt (by omega)).2 ha1;have lb : b.log2 < 53 := (Nat.log2_lt (by omega)).2 hb1
 show double.read (double.nearest false _ _) = _
 refine nearest_exact (a * b) (Nat.mul_pos ha hb) hab _ _ ?_;rw [show ((a.log2 : Int) - 52 + ((b.log2 : Int) - 52)).toNat = 0 by omega, show (-((a.log2 : Int) - 52 + ((b.log2 : Int) - 52))).toNat = (52 - a.log2) + (52 - b.log2) by omega, Nat.pow_add, Nat.pow_zero, Nat.mul_one];simp only [Nat.mul_assoc, Nat.mul_left_comm, Nat.mul_comm]
theorem div_is {a b q x y : Nat} (hx : Is a x) (hy : Is b y) (ha : 0 < a) (hb : 0 < b) (hq : a = q * b) (ha1 : a < 2 ^ 53) : ∃ r, floatBits .quo .f64 x y = some r ∧ Is q r := by
 have hq0 : 0 < q := by
  rcases Nat.eq_zero_or_pos q with h | h
  ·rw [h, Nat.zero_mul] at hq; omega
  ·exact h
 have hba : b ≤ a := by rw [hq]; exact Nat.le_mul_of_pos_left b hq0
 have hqa : q ≤ a := by rw [hq]; exact Nat.le_mul_of_pos_right q hb
 have la : a.log2 < 53 := (Nat.log2_lt (by omega)).2 ha1;have lb : b.log2 < 53 := (Nat.log2_lt (by omega)).2 (by omega)
 have lba : b.log2 ≤ a.log2 := by
  have := (log2_bounds hb).1;exact (Nat.le_log2 (by omega)).2 (by omega)
 unfold floatBits
 show ∃ r, double.div x y = some r ∧ _
 unfold Format.div;rw [hx, hy];have hm1 : (a * 2 ^ (52 - a.log2)).log2 = 52 := by rw [log2_shift ha]; omega
 have hm2 : (b * 2 ^ (52 - b.log2)).log2 = 52 := by rw [log2_shift hb]; omega
 have hne : b * 2 ^ (52 - b.log2) ≠ 0 := by have := Nat.mul_pos hb (Nat.two_pow_pos (52 - b.log2)); omega
 have hdv : (a * 2 ^ (52 - a.log2)) <<< 54 = q * 2 ^ (54 + b.log2 - a.log2) * (b * 2 ^ (52 - b.log2)) := by
  rw [Nat.shiftLeft_eq, hq, show ((q * b).log2) = a.log2 by rw [hq]]
  have e : 2 ^ (52 - a.log2) * 2 ^ 54 = 2 ^ (54 + b.log2 - a.log2) * 2 ^ (52 - b.log2) := by
   rw [← Nat.pow_add, ← Nat.pow_add]; congr 1; omega
  calc q * b * 2 ^ (52 - a.log2) * 2 ^ 54 = q * b * (2 ^ (52 - a.log2) * 2 ^ 54) := by rw [Nat.mul_assoc]
   _ = q * b * (2 ^ (54 + b.log2 - a.log2) * 2 ^ (52 - b.log2)) := by rw [e]
   _ = q * 2 ^ (54 + b.log2 - a.log2) * (b * 2 ^ (52 - b.log2)) := by simp only [Nat.mul_assoc, Nat.mul_left_comm, Nat.mul_comm]
 have hquo : (canon a).quotient (double.fractionBits + 2) (canon b) = some (.number false (2 * (q * 2 ^ (54 + b.log2 - a.log2))) ((a.log2 : Int) - 52 - ((b.log2 : Int) - 52) - 54 - 1)) := by
  unfold canon Datum.quotient;simp only [hm1, hm2];rw [if_neg hne];rw [show double.fractionBits + 2 + 52 - 52 = 54 from rfl, hdv, Nat.mul_div_cancel _ (by omega), Nat.mul_mod_left];rfl
 rw [hquo];refine ⟨_, rfl, ?_⟩
 show double.read (double.nearest false _ _) = _
 refine nearest_exact q hq0 (by omega) _ _ ?_;rw [show ((a.log2 : Int) - 52 - ((b.log2 : Int) - 52) - 54 - 1).toNat = 0 by omega, show (-((a.log2 : Int) - 52 - ((b.log2 : Int) - 52) - 54 - 1)).toNat = 54 + b.log2 - a.log2 + 1 by omega, Nat.pow_add, Nat.pow_zero, Nat.mul_one, Nat.pow_one];simp only [Nat.mul_assoc, Nat.mul_left_comm, Nat.mul_comm]
theorem toInt_is {n x : Nat} (hx : Is n x) (h0 : 0 < n) (h1 : n < 2 ^ 53) (k : IntKind) (hk : k.min ≤ n ∧ (n : Int) ≤ k.max) : floatToIntVal .f64 x k = some (n : Int) := by
 have hL : n.log2 < 53 := (Nat.log2_lt (by omega)).2 h1;unfold floatToIntVal
 have e : (FloatKind.f64.decode x).toInt .zero = some (n : Int) := by
  show (double.read x).toInt .zero = _
  rw [hx];unfold canon Datum.toInt Datum.integral;simp only;rw [show ((n.log2 : Int) - 52).toNat = 0 by omega, show (-((n.log2 : Int) - 52)).toNat = 52 - n.log2 by omega, Nat.shiftLeft_zero, cut_is _ (.inr rfl) n _ h0];simp [signed]
 rw [e];simp only;rw [if_pos hk]
end Go.Proofs.YtmecbmgfacpecaaGreatDoor.Flo
