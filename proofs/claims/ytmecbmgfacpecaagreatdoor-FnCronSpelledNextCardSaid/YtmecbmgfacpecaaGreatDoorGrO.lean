/- Lemmas and walks on the way to the law, merged by wip/tools/pack.py: LawSpelled, SpelledWalk. Conditions: none. -/
import Derived.Test.YtmecbmgfacpecaaGreatDoorGrG
import Derived.Test.YtmecbmgfacpecaaGreatDoorGrN
import Derived.Test.YtmecbmgfacpecaaGreatDoorGrM
import Derived.Test.YtmecbmgfacpecaaGreatDoorGrE
import Derived.Test.YtmecbmgfacpecaaGreatDoorPrA
import Derived.Test.YtmecbmgfacpecaaGreatDoorWEqStructT
import Derived.Test.YtmecbmgfacpecaaGreatDoorRows
import Derived.OpenShut
namespace Go.Proofs.YtmecbmgfacpecaaGreatDoor.CronN
open Go Go.RowKit Go.Proofs.YtmecbmgfacpecaaGreatDoorW.PrintWords Go.Proofs.YtmecbmgfacpecaaGreatDoorW.PrintLast Go.Proofs.YtmecbmgfacpecaaGreatDoorW.PrintMore Go.Proofs.YtmecbmgfacpecaaGreatDoor.Cal Go.Proofs.YtmecbmgfacpecaaGreatDoor.Pr Go.Proofs.YtmecbmgfacpecaaGreatDoor.Text
open Go.Proofs.YtmecbmgfacpecaaGreatDoor.Cron (TextP no_prefix blC Sty StyTo G parseCron_any textOf_any GoodSet setN setN_bit hiK loK)
open Go.Proofs.YtmecbmgfacpecaaGreatDoor.Sched (schSize)
set_option linter.unusedVariables false
set_option linter.unusedSimpArgs false
theorem eqInstS (d : Nat) (w : World) (x0 y0 x1 y1 : Int) :
  (Op.equalIn (d + 2) 50 (.agg #[.int .i64 x0, .int .i64 x1]) (.agg #[.int .i64 y0, .int .i64 y1])).run Tryz.prog w = .ok (x0 == y0 && (x1 == y1)) w := by
 refine eqA_of Tryz.underlying50 (by kernel_rfl) ?_
 refine eqf_cons (by rfl) (by go_simp; rfl) (by go_simp; rfl) (by go_simp) ?_
 exact eqf_last (by rfl) (by go_simp; rfl) (by go_simp; rfl) (by go_simp)
attribute [local go_sem high] eqInstS
theorem setN_lt (st : Bool) (p : Nat → Bool) : setN st p < 2 ^ 64 := by
 apply Nat.lt_pow_two_of_testBit
 intro i hi
 unfold setN
 rw [Nat.testBit_or, Bits.mkBits_test, decide_eq_false (by omega), Bool.false_and, Bool.false_or]
 cases st with
 | false => simp
 | true =>
  rw [if_pos rfl, show (9223372036854775808 : Nat) = 2 ^ 63 from rfl, Nat.testBit_two_pow]
  simp
  omega
theorem spell_ok {S : Sets} (h : ∀ k, k < 6 → SpellK S k) : S.ok := by
 have hk : ∀ k, k < 6 → bitsK S k < 2 ^ 64 := by
  intro k hk
  obtain ⟨st, q, -, e⟩ := h k hk
  rw [e]
  exact setN_lt st q
 exact ⟨hk 0 (by omega), hk 1 (by omega), hk 2 (by omega), hk 3 (by omega), hk 4 (by omega), hk 5 (by omega)⟩
theorem parse_spelled {S : Sets} {l t : List UInt8} (h : TextP (bitsK S) 6 l) (ht : ∀ c ∈ t, blC c) (htl : t.length ≤ 10) (w : World) (hg : G w) :
  Calls Tryz.prog 11 #[.int .i64 125, .string (ba (l ++ t))] w fun e w' => e = .returned (.tuple #[.agg (setsCells 0 S), .bool true]) ∧ Below w.heap.size w w' := by
 have hp := h.plain ht
 have hsz : (ba (l ++ t)).size ≤ 4294967296 := by
  obtain ⟨ws, -, -, -, h4, -⟩ := h
  rw [Cron.ba_size, List.length_append]
  omega
 have := parseCron_any 125 (by omega) (ba (l ++ t)) hsz (no_prefix (x := 61) (by simp) (fun c hc => (hp c hc).1)) (no_prefix (x := 61) (by simp) (fun c hc => (hp c hc).1)) (no_prefix (x := 64) (by simp) (fun c hc => (hp c hc).2)) w hg
 rw [if_neg (by decide), h.parse ht] at this
 refine this.mono ?_
 rintro e w' ⟨rfl, hb⟩
 exact ⟨rfl, hb⟩
theorem ansI_eq (r : Option Int) : ansI 0 r = instC r := by
 cases r with
 | none => rfl
 | some L =>
  show #[Value.int .i64 (L - 0), Value.int .i64 0] = #[.int .i64 L, .int .i64 0]
  rw [Int.sub_zero]
def schedZ : Array Value := #[.bool false, .int .i64 0, .int .u64 0, .int .u64 0, .int .u64 0, .int .u64 0, .int .u64 0, .int .u64 0]
def SchedRow (w : World) (g : Nat) : Prop := w.heap[g]? = some (.cells schedZ 26 (0, 0))
theorem SchedRow.below {w w' : World} {g : Nat} (h : SchedRow w g) (hb : Below w.heap.size w w') : SchedRow w' g := row_keep h hb
theorem schedRow_of {B : Nat} {wo W : World} (h : Below B wo W) : SchedRow (W.alloc (.cells schedZ 26 (0, 0))) W.heap.size := heap_alloc_new W _
theorem schedRow_sty {w0 w1 w2 : World} {g T : Nat} (h : SchedRow w1 T) (k : StyTo w0 w1 g w2) (hne : T ≠ g) : SchedRow w2 T := (k.2.2 _ (row_lt h) hne (by simp)).trans h
theorem sty_al {w0 w : World} {g : Nat} (h : Sty w0 w g) (o : Obj) : Sty w0 (w.alloc o) g := (h.below ((Below.refl w.heap.size w).alloc (Nat.le_refl _) o)).1
theorem run_alloc_schedZ (w : World) : (Instr.alloc 26 true (.tuple #[])).run Tryz.prog w = .ok (.pointer (some ⟨w.heap.size, 0, none⟩)) (w.alloc (.cells schedZ 26 (0, 0))) := by kernel_rfl
theorem exec_alloc_sched (ev : Operand → Value) (oi : Oper) (w : World) (ho : oi.op = .alloc 26) :
  (execOp ev oi).run Tryz.prog w = .ok (.value (.pointer (some ⟨w.heap.size, 0, none⟩))) (w.alloc (.cells schedZ 26 (0, 0))) := by
 have := run_alloc_schedZ w
 unfold execOp
 rw [ho]
 simp only [Sem.run_bind, Sem.run_pure, Result.andThen_ok, this]
theorem row_ne {w : World} {a b : Nat} {cs cs' : Array Value} {t t' : TypeId} {fr fr' : Nat × Nat} (h : w.heap[a]? = some (.cells cs t fr)) (h' : w.heap[b]? = some (.cells cs' t' fr')) (ht : t ≠ t') : a ≠ b := by
 rintro rfl
 rw [h] at h'
 simp only [Option.some.injEq, Obj.cells.injEq] at h'
 exact ht h'.2.1
theorem instL_get : ∀ (L : List Int) (i : Nat), i < L.length → (instL L)[i * 2]? = some (.int .i64 (L.getD i 0)) ∧ (instL L)[i * 2 + 1]? = some (.int .i64 0)
 | [], i, h => by simp at h
 | x :: L, 0, _ => by simp [instL]
 | x :: L, i + 1, h => by
  have ih := instL_get L i (by simpa using h)
  have e : instL (x :: L) = [.int .i64 x, .int .i64 0] ++ instL L := by simp [instL]
  rw [e, show (i + 1) * 2 = 2 + i * 2 by omega, List.getElem?_append_right (by simp), show (2 + i * 2 + 1) = 2 + (i * 2 + 1) by omega, List.getElem?_append_right (by simp)]
  simp only [List.length_cons, List.length_nil]
  rw [show 2 + i * 2 - (0 + 1 + 1) = i * 2 by omega, show 2 + (i * 2 + 1) - (0 + 1 + 1) = i * 2 + 1 by omega]
  exact ih
theorem at_succ (sec : Int) (L : List Int) (i : Nat) : at_ sec L (i + 1) = L.getD i 0 := by unfold at_; simp
theorem inst_range {w : World} {base q cap : Nat} {L : List Int} (h : w.ownsRow base 50 2 (.slice (some ⟨q, 0, none⟩) L.length cap) L.length (instL L)) (sec : Int) (i : Nat) (hi : i < L.length) : w.rangeAt q (i * 2) [.int .i64 (at_ sec L (i + 1)), .int .i64 0] := by
 obtain ⟨h1, h2⟩ := instL_get L i hi
 intro j v hv
 rw [at_succ] at hv
 match j, hv with
 | 0, hv =>
  simp only [List.getElem?_cons_zero] at hv
  rw [Nat.add_zero, h.cellAt (i * 2) (by omega), h1, hv]
 | 1, hv =>
  simp only [List.getElem?_cons_succ, List.getElem?_cons_zero] at hv
  rw [h.cellAt (i * 2 + 1) (by omega), h2, hv]
theorem exec_load_midS {P : Program} (ev : Operand → Value) (oi : Oper) (w : World) (ty : TypeId) (x : Operand) (ho : oi.op = .load ty x) (b o : Nat) (hx : ev x = .pointer (some ⟨b, o, none⟩)) (cs : List Value) (d : TypeDesc) (hc : w.rangeAt b o cs)
  (hu : P.underlying ty = some d) (hd : d.isRow = true) (hi : (P.info? ty).map (·.size) = some cs.length) : (execOp ev oi).run P w = .ok (.value (.agg cs.toArray)) w := by
 unfold execOp
 simp only [ho, hx, Instr.loadAt, Instr.sureAddr, Sem.run_bind, Sem.run_pure, Result.andThen_ok, run_loadVar_mid w b o ty cs d hc hu hd hi]
set_option maxRecDepth 100000 in
set_option maxHeartbeats 16000000 in
theorem lawSpelled_any (ev : Bool) (d : Int) (S0 : Sets) (hS0 : S0.ok) (A : Option Addr) (l : List Int) (cap : Nat) (sec nano n : Int) (hcap : l.length ≤ cap) (hx : ∀ x ∈ l, (0 : Int) ≤ x ∧ x < 256) (w : World) (hr : Kd.C (Kd.int .u8) w A l.length l) (hg : G w) :
  Calls Tryz.prog 7 #[.agg (schedC ev d S0), .slice A l.length cap, .agg #[.int .i64 sec, .int .i64 nano], .int .i64 n] w fun e w' => e = .returned (.bool true) ∧ Below w.heap.size w w' := by
 have HGG : Hid (∀ w' : World, Below w.heap.size w w' → G w') := Lib.hid (fun w' h => hg.below h)
 have HGD := Lib.hid (fun sec nano w' => good_any sec nano w')
 have HSO := Lib.hid (fun w' => cronSetsOf_any ev d S0 hS0 w')
 have HU := Lib.hid (fun w' => cronUtc_any w')
 have hmf : ∀ (fn : Fn) (first cap : Array Value) (w : World), (Instr.makeFunc fn first cap).run Tryz.prog w = .ok (.func fn first cap) w := fun _ _ _ _ => rfl
 have HTO0 := Lib.hid (fun (S : Sets) (hS : ∀ k, k < 6 → SpellK S k) g w0 w' (h : Sty w0 w' g) => textOf_any h S hS)
 by_cases hlen : l.length ≤ 2147483647
 rotate_left
 ·have hd : decide (((l.length : Nat) : Int) > 2147483647) = true := decide_eq_true (by omega)
  clear hr hx
  unfold schedC
  go_enter Tryz.func7, Tryz.ntmps7
  go_wp2_with fail
  go_ret
  exact ⟨rfl, ((Below.refl _ _).alloc (Nat.le_refl _) _).alloc (by simp) _⟩
 have HNS : Hid (∀ w' : World, Below w.heap.size w w' → Calls Tryz.prog 38 #[.slice A l.length cap] w' fun e w2 => ∃ g, e = .returned (.pointer (some ⟨g, 0, none⟩)) ∧ Sty w' w2 g ∧ Below w'.heap.size w' w2) := Lib.hid (fun w' hb => (spec_NewCronStyle.calls A cap l l 0 w' w' (Below.refl _ _) (Kd.C_below hr hb) hcap rfl).mono (by
  rintro e w2 ⟨g, rfl, hI, hB, hb2⟩
  exact ⟨g, rfl, ⟨hB, l, 0, hI, by omega, by omega, hx⟩, hb2⟩))
 have hd : decide (((l.length : Nat) : Int) > 2147483647) = false := decide_eq_false (by omega)
 have hr0 := heap_alloc_new w (.cells (schedC ev d S0) 26)
 have HR0 : Hid (((w.alloc (.cells (schedC ev d S0) 26)).alloc (.cells #[.int .i64 sec, .int .i64 nano] 50)).heap[w.heap.size]? = some (.cells (schedC ev d S0) 26 (0, 0))) := Lib.hid (row_new hr0)
 have HR1 := Lib.hid (heap_two w (.cells (schedC ev d S0) 26) (.cells #[.int .i64 sec, .int .i64 nano] 50))
 have HB0 := Lib.hid (((Below.refl w.heap.size w).alloc (Nat.le_refl _) (.cells (schedC ev d S0) 26)).alloc (by simp) (.cells #[.int .i64 sec, .int .i64 nano] 50))
 clear hr hx hr0 hg
 unfold schedC at *
 go_enter Tryz.func7, Tryz.ntmps7
 go_wp2_with (refine wpList_load_row rfl 50 _ rfl (w.heap.size + 1) rfl _ _ _ _ HR1.out Tryz.underlying50 rfl instSize ?_)
 refine (HGD.out sec nano _).mono ?_
 rintro e w1 ⟨rfl, hb1⟩
 have HR01 := Lib.hid (row_keep HR0.out hb1)
 have HR11 := Lib.hid (row_keep HR1.out hb1)
 have HB1 := Lib.hid (below_le HB0.out hb1)
 clear hb1 HR0 HR1 HB0
 cases hgd : goodB sec nano with
 | false =>
  go_wp2_with fail
  go_ret
  exact ⟨rfl, HB1.out⟩
 | true =>
  by_cases hn1 : n < 1
  ·have hd1 : decide (n < 1) = true := decide_eq_true hn1
   go_wp2_with fail
   go_ret
   exact ⟨rfl, HB1.out⟩
  by_cases hn16 : n > 16
  ·have hd1 : decide (n < 1) = false := decide_eq_false hn1
   have hd2 : decide (n > 16) = true := decide_eq_true hn16
   go_wp2_with fail
   go_ret
   exact ⟨rfl, HB1.out⟩
  obtain ⟨m, rfl⟩ : ∃ m : Nat, n = m := ⟨n.toNat, by omega⟩
  have hd1 : decide ((m : Int) < 1) = false := decide_eq_false hn1
  have hd2 : decide ((m : Int) > 16) = false := decide_eq_false hn16
  have hm16 : m ≤ 16 := by omega
  have HGOOD := Lib.hid hgd
  clear hn1 hn16 hgd
  go_wp2_with (refine wpList_load_row rfl 26 _ rfl w.heap.size rfl _ _ _ _ HR01.out Tryz.underlying26 rfl schedSize ?_)
  refine (HSO.out _).mono ?_
  rintro e w2 ⟨⟨S, hS, rfl⟩, hb2⟩
  have HR12 := Lib.hid (row_keep HR11.out hb2)
  have HB2 := Lib.hid (below_le HB1.out hb2)
  have hok := spell_ok hS
  have HTO := Lib.hid (fun g w0 w' (h : Sty w0 w' g) => HTO0.out S hS g w0 w' h)
  have HPC : Hid (∀ lx tx, TextP (bitsK S) 6 lx → (∀ c ∈ tx, blC c) → tx.length ≤ 10 → ∀ w' : World, Below w.heap.size w w' → Calls Tryz.prog 11 #[.int .i64 125, .string (ba (lx ++ tx))] w' fun e w2 => e = .returned (.tuple #[.agg (setsCells 0 S), .bool true]) ∧ Below w'.heap.size w' w2) := Lib.hid (fun lx tx h1 h2 h3 w' hb => parse_spelled h1 h2 h3 w' (HGG.out w' hb))
  have HNM := Lib.hid (fun w' => nextMany_any 0 S hok sec nano HGOOD.out m hm16 w')
  have HCX := Lib.hid (fun cur nn h0 h1 w' => cronNext_utc S cur nn h0 h1 w')
  unfold utcZone at HNM HCX HU
  clear hb2 HR01 HR11 HB1 HTO0 HSO hS
  go_upto_region 6 with (go_big_may; refine wpList_store_row rfl 88 _ _ rfl w2.heap.size (fieldsC S) rfl rfl 88 _ (heap_alloc_new w2 _) (by rw [fieldsSize, fieldsC_size]) (by rw [fieldsC_size, zeroC_size]) (fieldsC_one S) ?_)
  try dsimp only [Act.put]
  generalize hY : World.setRow _ _ _ = wo
  have hq1 : wo.heap[w2.heap.size]? = some (.cells (fieldsC S) 88 (0, 0)) := by rw [← hY]; exact setRow_heap _ _ _ _ _ _ (heap_alloc_new w2 _)
  have hbs : Below w2.heap.size w2 wo := by rw [← hY]; exact below_setRow ((Below.refl _ _).alloc (Nat.le_refl _) _) (Nat.le_refl _) _
  clear hY
  have hq0 := row_keep HR12.out hbs
  have hB := below_le HB2.out hbs
  generalize w2.heap.size = g9 at *
  clear hbs HR12 HB2
  refine start_ (n := 11) (S := fun w' => w'.heap[w.heap.size + 1]? = some (.cells #[.int .i64 sec, .int .i64 nano] 50 (0, 0)) ∧ w'.heap[g9]? = some (.cells (fieldsC S) 88 (0, 0)) ∧ Below w.heap.size w w') (ds := [9]) #[false, false, false, false, false, false, false, false, false, false, false] (by kernel_rfl) rfl rfl ⟨hq0, hq1, hB.drew⟩ (fun hHeld => ?_)
  refine pure_ (i := 1) (N := some 34) (v := ?_) (a' := ?_) #[false, true, false, false, false, false, false, false, false, false, false] rfl rfl (by kernel_rfl) (fun _ _ _ h => h) (Or.inl ⟨by rfl, ?_⟩) ?_ ?_
  rotate_left
  ·intro w'
   go_simp
   with_reducible rfl
  rotate_left
  ·simp only [Act.put, List.setIfInBounds_toArray, List.set_cons_zero, List.set_cons_succ, i64_w, i32_w]
   rfl
  refine take_ (i := 0) (N := some 33) (v := ?_) (a' := ?_) #[true, true, false, false, false, false, false, false, false, false, false] rfl rfl (by kernel_rfl) (fun _ _ _ h => h) (Or.inl ⟨by rfl, ?_⟩) hHeld ?_ ?_
  rotate_left
  ·rintro w' ⟨s0, s1, s2⟩
   refine exec_load_row _ _ w' 88 (.tmp 9) ?_ g9 ?_ _ _ _ _ s1 Tryz.underlying88 rfl (by rw [fieldsSize, fieldsC_size])
   ·rfl
   ·rfl
  rotate_left
  ·simp only [Act.put, List.setIfInBounds_toArray, List.set_cons_zero, List.set_cons_succ, i64_w, i32_w]
   rfl
  refine join_ (σ := Nat × List UInt8 × List UInt8 × Nat) 2 #[true, true, true, true, true, true, true, true, true, false, false] (fun s => [(35, .pointer (some ⟨s.1, 0, none⟩)), (36, .string (ba (s.2.1 ++ s.2.2.1))), (37, .tuple #[.agg (setsCells 0 S), .bool true]), (32, .tuple #[.agg (setsCells 0 S), .bool true]), (38, .agg (setsCells 0 S)), (39, .bool true), (10, .pointer (some ⟨s.2.2.2, 0, none⟩))]) (fun s w' => SchedRow w' s.2.2.2 ∧ w.heap.size ≤ s.2.2.2 ∧ (w'.heap[w.heap.size + 1]? = some (.cells #[.int .i64 sec, .int .i64 nano] 50 (0, 0)) ∧ w'.heap[g9]? = some (.cells (fieldsC S) 88 (0, 0)) ∧ Below w.heap.size w w')) ?_ ?_
  rotate_left
  ·intro hCont
   refine two_ (i := 2) (j := 8) (Ni := some 35) (Nj := some 10) #[true, true, true, false, false, false, false, false, false, false, false] #[true, true, false, false, false, false, false, false, true, false, false] rfl rfl rfl rfl (by kernel_rfl) (by decide) (by decide) (fun K hK => ?_) (fun K hK => ?_)
   ·skip
    have hPre := hHeld
    refine goes_ Tryz.func38 (by kernel_rfl) rfl #[.slice A l.length cap] (by rfl) rfl rfl (by simp only [List.map_toArray, List.map_cons, List.map_nil]; rfl) ?_
    with_reducible refine (HNS.out _ hHeld.2.2).mono ?_
    rintro e w4 ⟨gs, rfl, hgs, hb4⟩
    refine ⟨_, rfl, ?_⟩
    refine hK.out _ _ ⟨row_keep hHeld.1 hb4, row_keep hHeld.2.1 hb4, below_le hHeld.2.2 hb4⟩ (fun hHeld => ?_)
    clear hK K
    refine norm_ (a' := ?_) ?_ ?_
    rotate_left
    ·show Act.put _ (some 35) _ = _
     simp only [Act.put, List.setIfInBounds_toArray, List.set_cons_zero, List.set_cons_succ, i64_w, i32_w]
     rfl
    refine two_ (i := 3) (j := 8) (Ni := some 36) (Nj := some 10) #[true, true, true, true, false, false, false, false, false, false, false] #[true, true, true, false, false, false, false, false, true, false, false] rfl rfl rfl rfl (by kernel_rfl) (by decide) (by decide) (fun K hK => ?_) (fun K hK => ?_)
    ·skip
     refine goes_ Tryz.func37 (by kernel_rfl) rfl #[.agg (fieldsC S), .int .i64 125, .pointer (some ⟨gs, 0, none⟩)] (by rfl) rfl rfl (by simp only [List.map_toArray, List.map_cons, List.map_nil]; rfl) ?_
     with_reducible refine (HTO.out gs _ _ hgs).mono ?_
     rintro e w5 ⟨lx, tx, htp, hbl, htl, rfl, hst5⟩
     refine ⟨_, rfl, ?_⟩
     refine hK.out _ _ ⟨row_keep hPre.1 hst5.1.1, row_keep hPre.2.1 hst5.1.1, below_le hPre.2.2 hst5.1.1⟩ (fun hHeld => ?_)
     clear hK K
     refine norm_ (a' := ?_) ?_ ?_
     rotate_left
     ·show Act.put _ (some 36) _ = _
      simp only [Act.put, List.setIfInBounds_toArray, List.set_cons_zero, List.set_cons_succ, i64_w, i32_w]
      rfl
     refine two_ (i := 4) (j := 8) (Ni := some 37) (Nj := some 10) #[true, true, true, true, true, false, false, false, false, false, false] #[true, true, true, true, false, false, false, false, true, false, false] rfl rfl rfl rfl (by kernel_rfl) (by decide) (by decide) (fun K hK => ?_) (fun K hK => ?_)
     ·skip
      refine goes_ Tryz.func11 (by kernel_rfl) rfl #[.int .i64 125, .string (ba (lx ++ tx))] (by rfl) rfl rfl (by simp only [List.map_toArray, List.map_cons, List.map_nil]; rfl) ?_
      with_reducible refine (HPC.out lx tx htp hbl htl _ hHeld.2.2).mono ?_
      rintro e w6 ⟨rfl, hb6⟩
      refine ⟨_, rfl, ?_⟩
      refine hK.out _ _ ⟨row_keep hHeld.1 hb6, row_keep hHeld.2.1 hb6, below_le hHeld.2.2 hb6⟩ (fun hHeld => ?_)
      clear hK K
      refine norm_ (a' := ?_) ?_ ?_
      rotate_left
      ·show Act.put _ (some 37) _ = _
       simp only [Act.put, List.setIfInBounds_toArray, List.set_cons_zero, List.set_cons_succ, i64_w, i32_w]
       rfl
      refine pure_ (i := 5) (N := some 32) (v := ?_) (a' := ?_) #[true, true, true, true, true, true, false, false, false, false, false] rfl rfl (by kernel_rfl) (fun _ _ _ h => h) (Or.inl ⟨by rfl, ?_⟩) ?_ ?_
      rotate_left
      ·intro w'
       go_simp
       with_reducible rfl
      rotate_left
      ·simp only [Act.put, List.setIfInBounds_toArray, List.set_cons_zero, List.set_cons_succ, i64_w, i32_w]
       rfl
      refine pure_ (i := 6) (N := some 38) (v := ?_) (a' := ?_) #[true, true, true, true, true, true, true, false, false, false, false] rfl rfl (by kernel_rfl) (fun _ _ _ h => h) (Or.inl ⟨by rfl, ?_⟩) ?_ ?_
      rotate_left
      ·intro w'
       go_simp
       with_reducible rfl
      rotate_left
      ·simp only [Act.put, List.setIfInBounds_toArray, List.set_cons_zero, List.set_cons_succ, i64_w, i32_w]
       rfl
      refine pure_ (i := 7) (N := some 39) (v := ?_) (a' := ?_) #[true, true, true, true, true, true, true, true, false, false, false] rfl rfl (by kernel_rfl) (fun _ _ _ h => h) (Or.inl ⟨by rfl, ?_⟩) ?_ ?_
      rotate_left
      ·intro w'
       go_simp
       with_reducible rfl
      rotate_left
      ·simp only [Act.put, List.setIfInBounds_toArray, List.set_cons_zero, List.set_cons_succ, i64_w, i32_w]
       rfl
      refine one_ (i := 8) (N := some 10) #[true, true, true, true, true, true, true, true, true, false, false] rfl rfl (by kernel_rfl) (by decide) (fun K hK => ?_)
      have hge7 := hHeld.2.2.size
      have hs7 := schedRow_of hHeld.2.2
      refine value_ (by rfl) rfl (exec_alloc_sched _ _ _ rfl) ?_
      refine hK.out _ _ ⟨row_keep hHeld.1 ((Below.refl _ _).alloc (Nat.le_refl _) _), row_keep hHeld.2.1 ((Below.refl _ _).alloc (Nat.le_refl _) _), hHeld.2.2.alloc hHeld.2.2.size _⟩ (fun hHeld => ?_)
      clear hK K
      refine norm_ (a' := ?_) ?_ ?_
      rotate_left
      ·show Act.put _ (some 10) _ = _
       simp only [Act.put, List.setIfInBounds_toArray, List.set_cons_zero, List.set_cons_succ, i64_w, i32_w]
       rfl
      exact norm_ (by simp only [putAll, Act.put, List.setIfInBounds_toArray, List.set_cons_zero, List.set_cons_succ]) (hCont (gs, lx, tx, w6.heap.size) _ ⟨hs7, hge7, hHeld⟩)
     ·skip
      have hge7 := hHeld.2.2.size
      have hs7 := schedRow_of hHeld.2.2
      refine value_ (by rfl) rfl (exec_alloc_sched _ _ _ rfl) ?_
      refine hK.out _ _ ⟨row_keep hHeld.1 ((Below.refl _ _).alloc (Nat.le_refl _) _), row_keep hHeld.2.1 ((Below.refl _ _).alloc (Nat.le_refl _) _), hHeld.2.2.alloc hHeld.2.2.size _⟩ (fun hHeld => ?_)
      clear hK K
      refine norm_ (a' := ?_) ?_ ?_
      rotate_left
      ·show Act.put _ (some 10) _ = _
       simp only [Act.put, List.setIfInBounds_toArray, List.set_cons_zero, List.set_cons_succ, i64_w, i32_w]
       rfl
      refine one_ (i := 4) (N := some 37) #[true, true, true, true, true, false, false, false, true, false, false] rfl rfl (by kernel_rfl) (by decide) (fun K hK => ?_)
      refine goes_ Tryz.func11 (by kernel_rfl) rfl #[.int .i64 125, .string (ba (lx ++ tx))] (by rfl) rfl rfl (by simp only [List.map_toArray, List.map_cons, List.map_nil]; rfl) ?_
      with_reducible refine (HPC.out lx tx htp hbl htl _ hHeld.2.2).mono ?_
      rintro e w6 ⟨rfl, hb6⟩
      refine ⟨_, rfl, ?_⟩
      refine hK.out _ _ ⟨row_keep hHeld.1 hb6, row_keep hHeld.2.1 hb6, below_le hHeld.2.2 hb6⟩ (fun hHeld => ?_)
      clear hK K
      refine norm_ (a' := ?_) ?_ ?_
      rotate_left
      ·show Act.put _ (some 37) _ = _
       simp only [Act.put, List.setIfInBounds_toArray, List.set_cons_zero, List.set_cons_succ, i64_w, i32_w]
       rfl
      refine pure_ (i := 5) (N := some 32) (v := ?_) (a' := ?_) #[true, true, true, true, true, true, false, false, true, false, false] rfl rfl (by kernel_rfl) (fun _ _ _ h => h) (Or.inl ⟨by rfl, ?_⟩) ?_ ?_
      rotate_left
      ·intro w'
       go_simp
       with_reducible rfl
      rotate_left
      ·simp only [Act.put, List.setIfInBounds_toArray, List.set_cons_zero, List.set_cons_succ, i64_w, i32_w]
       rfl
      refine pure_ (i := 6) (N := some 38) (v := ?_) (a' := ?_) #[true, true, true, true, true, true, true, false, true, false, false] rfl rfl (by kernel_rfl) (fun _ _ _ h => h) (Or.inl ⟨by rfl, ?_⟩) ?_ ?_
      rotate_left
      ·intro w'
       go_simp
       with_reducible rfl
      rotate_left
      ·simp only [Act.put, List.setIfInBounds_toArray, List.set_cons_zero, List.set_cons_succ, i64_w, i32_w]
       rfl
      refine pure_ (i := 7) (N := some 39) (v := ?_) (a' := ?_) #[true, true, true, true, true, true, true, true, true, false, false] rfl rfl (by kernel_rfl) (fun _ _ _ h => h) (Or.inl ⟨by rfl, ?_⟩) ?_ ?_
      rotate_left
      ·intro w'
       go_simp
       with_reducible rfl
      rotate_left
      ·simp only [Act.put, List.setIfInBounds_toArray, List.set_cons_zero, List.set_cons_succ, i64_w, i32_w]
       rfl
      exact norm_ (by simp only [putAll, Act.put, List.setIfInBounds_toArray, List.set_cons_zero, List.set_cons_succ]) (hCont (gs, lx, tx, w5.heap.size) _ ⟨hs7.below hb6, hge7, hHeld⟩)
    ·skip
     have hge7 := hHeld.2.2.size
     have hs7 := schedRow_of hHeld.2.2
     refine value_ (by rfl) rfl (exec_alloc_sched _ _ _ rfl) ?_
     refine hK.out _ _ ⟨row_keep hHeld.1 ((Below.refl _ _).alloc (Nat.le_refl _) _), row_keep hHeld.2.1 ((Below.refl _ _).alloc (Nat.le_refl _) _), hHeld.2.2.alloc hHeld.2.2.size _⟩ (fun hHeld => ?_)
     clear hK K
     refine norm_ (a' := ?_) ?_ ?_
     rotate_left
     ·show Act.put _ (some 10) _ = _
      simp only [Act.put, List.setIfInBounds_toArray, List.set_cons_zero, List.set_cons_succ, i64_w, i32_w]
      rfl
     refine one_ (i := 3) (N := some 36) #[true, true, true, true, false, false, false, false, true, false, false] rfl rfl (by kernel_rfl) (by decide) (fun K hK => ?_)
     refine goes_ Tryz.func37 (by kernel_rfl) rfl #[.agg (fieldsC S), .int .i64 125, .pointer (some ⟨gs, 0, none⟩)] (by rfl) rfl rfl (by simp only [List.map_toArray, List.map_cons, List.map_nil]; rfl) ?_
     with_reducible refine (HTO.out gs _ _ (sty_al hgs _)).mono ?_
     rintro e w5 ⟨lx, tx, htp, hbl, htl, rfl, hst5⟩
     refine ⟨_, rfl, ?_⟩
     refine hK.out _ _ ⟨row_keep hPre.1 hst5.1.1, row_keep hPre.2.1 hst5.1.1, below_le hPre.2.2 hst5.1.1⟩ (fun hHeld => ?_)
     clear hK K
     refine norm_ (a' := ?_) ?_ ?_
     rotate_left
     ·show Act.put _ (some 36) _ = _
      simp only [Act.put, List.setIfInBounds_toArray, List.set_cons_zero, List.set_cons_succ, i64_w, i32_w]
      rfl
     refine one_ (i := 4) (N := some 37) #[true, true, true, true, true, false, false, false, true, false, false] rfl rfl (by kernel_rfl) (by decide) (fun K hK => ?_)
     refine goes_ Tryz.func11 (by kernel_rfl) rfl #[.int .i64 125, .string (ba (lx ++ tx))] (by rfl) rfl rfl (by simp only [List.map_toArray, List.map_cons, List.map_nil]; rfl) ?_
     with_reducible refine (HPC.out lx tx htp hbl htl _ hHeld.2.2).mono ?_
     rintro e w6 ⟨rfl, hb6⟩
     refine ⟨_, rfl, ?_⟩
     refine hK.out _ _ ⟨row_keep hHeld.1 hb6, row_keep hHeld.2.1 hb6, below_le hHeld.2.2 hb6⟩ (fun hHeld => ?_)
     clear hK K
     refine norm_ (a' := ?_) ?_ ?_
     rotate_left
     ·show Act.put _ (some 37) _ = _
      simp only [Act.put, List.setIfInBounds_toArray, List.set_cons_zero, List.set_cons_succ, i64_w, i32_w]
      rfl
     refine pure_ (i := 5) (N := some 32) (v := ?_) (a' := ?_) #[true, true, true, true, true, true, false, false, true, false, false] rfl rfl (by kernel_rfl) (fun _ _ _ h => h) (Or.inl ⟨by rfl, ?_⟩) ?_ ?_
     rotate_left
     ·intro w'
      go_simp
      with_reducible rfl
     rotate_left
     ·simp only [Act.put, List.setIfInBounds_toArray, List.set_cons_zero, List.set_cons_succ, i64_w, i32_w]
      rfl
     refine pure_ (i := 6) (N := some 38) (v := ?_) (a' := ?_) #[true, true, true, true, true, true, true, false, true, false, false] rfl rfl (by kernel_rfl) (fun _ _ _ h => h) (Or.inl ⟨by rfl, ?_⟩) ?_ ?_
     rotate_left
     ·intro w'
      go_simp
      with_reducible rfl
     rotate_left
     ·simp only [Act.put, List.setIfInBounds_toArray, List.set_cons_zero, List.set_cons_succ, i64_w, i32_w]
      rfl
     refine pure_ (i := 7) (N := some 39) (v := ?_) (a' := ?_) #[true, true, true, true, true, true, true, true, true, false, false] rfl rfl (by kernel_rfl) (fun _ _ _ h => h) (Or.inl ⟨by rfl, ?_⟩) ?_ ?_
     rotate_left
     ·intro w'
      go_simp
      with_reducible rfl
     rotate_left
     ·simp only [Act.put, List.setIfInBounds_toArray, List.set_cons_zero, List.set_cons_succ, i64_w, i32_w]
      rfl
     exact norm_ (by simp only [putAll, Act.put, List.setIfInBounds_toArray, List.set_cons_zero, List.set_cons_succ]) (hCont (gs, lx, tx, w4.heap.size) _ ⟨(schedRow_sty hs7 hst5 (Nat.ne_of_gt hgs.lt.2)).below hb6, hge7, hHeld⟩)
   ·skip
    have hge7 := hHeld.2.2.size
    have hs7 := schedRow_of hHeld.2.2
    refine value_ (by rfl) rfl (exec_alloc_sched _ _ _ rfl) ?_
    refine hK.out _ _ ⟨row_keep hHeld.1 ((Below.refl _ _).alloc (Nat.le_refl _) _), row_keep hHeld.2.1 ((Below.refl _ _).alloc (Nat.le_refl _) _), hHeld.2.2.alloc hHeld.2.2.size _⟩ (fun hHeld => ?_)
    clear hK K
    refine norm_ (a' := ?_) ?_ ?_
    rotate_left
    ·show Act.put _ (some 10) _ = _
     simp only [Act.put, List.setIfInBounds_toArray, List.set_cons_zero, List.set_cons_succ, i64_w, i32_w]
     rfl
    refine one_ (i := 2) (N := some 35) #[true, true, true, false, false, false, false, false, true, false, false] rfl rfl (by kernel_rfl) (by decide) (fun K hK => ?_)
    have hPre := hHeld
    refine goes_ Tryz.func38 (by kernel_rfl) rfl #[.slice A l.length cap] (by rfl) rfl rfl (by simp only [List.map_toArray, List.map_cons, List.map_nil]; rfl) ?_
    with_reducible refine (HNS.out _ hHeld.2.2).mono ?_
    rintro e w4 ⟨gs, rfl, hgs, hb4⟩
    refine ⟨_, rfl, ?_⟩
    refine hK.out _ _ ⟨row_keep hHeld.1 hb4, row_keep hHeld.2.1 hb4, below_le hHeld.2.2 hb4⟩ (fun hHeld => ?_)
    clear hK K
    refine norm_ (a' := ?_) ?_ ?_
    rotate_left
    ·show Act.put _ (some 35) _ = _
     simp only [Act.put, List.setIfInBounds_toArray, List.set_cons_zero, List.set_cons_succ, i64_w, i32_w]
     rfl
    refine one_ (i := 3) (N := some 36) #[true, true, true, true, false, false, false, false, true, false, false] rfl rfl (by kernel_rfl) (by decide) (fun K hK => ?_)
    refine goes_ Tryz.func37 (by kernel_rfl) rfl #[.agg (fieldsC S), .int .i64 125, .pointer (some ⟨gs, 0, none⟩)] (by rfl) rfl rfl (by simp only [List.map_toArray, List.map_cons, List.map_nil]; rfl) ?_
    with_reducible refine (HTO.out gs _ _ hgs).mono ?_
    rintro e w5 ⟨lx, tx, htp, hbl, htl, rfl, hst5⟩
    refine ⟨_, rfl, ?_⟩
    refine hK.out _ _ ⟨row_keep hPre.1 hst5.1.1, row_keep hPre.2.1 hst5.1.1, below_le hPre.2.2 hst5.1.1⟩ (fun hHeld => ?_)
    clear hK K
    refine norm_ (a' := ?_) ?_ ?_
    rotate_left
    ·show Act.put _ (some 36) _ = _
     simp only [Act.put, List.setIfInBounds_toArray, List.set_cons_zero, List.set_cons_succ, i64_w, i32_w]
     rfl
    refine one_ (i := 4) (N := some 37) #[true, true, true, true, true, false, false, false, true, false, false] rfl rfl (by kernel_rfl) (by decide) (fun K hK => ?_)
    refine goes_ Tryz.func11 (by kernel_rfl) rfl #[.int .i64 125, .string (ba (lx ++ tx))] (by rfl) rfl rfl (by simp only [List.map_toArray, List.map_cons, List.map_nil]; rfl) ?_
    with_reducible refine (HPC.out lx tx htp hbl htl _ hHeld.2.2).mono ?_
    rintro e w6 ⟨rfl, hb6⟩
    refine ⟨_, rfl, ?_⟩
    refine hK.out _ _ ⟨row_keep hHeld.1 hb6, row_keep hHeld.2.1 hb6, below_le hHeld.2.2 hb6⟩ (fun hHeld => ?_)
    clear hK K
    refine norm_ (a' := ?_) ?_ ?_
    rotate_left
    ·show Act.put _ (some 37) _ = _
     simp only [Act.put, List.setIfInBounds_toArray, List.set_cons_zero, List.set_cons_succ, i64_w, i32_w]
     rfl
    refine pure_ (i := 5) (N := some 32) (v := ?_) (a' := ?_) #[true, true, true, true, true, true, false, false, true, false, false] rfl rfl (by kernel_rfl) (fun _ _ _ h => h) (Or.inl ⟨by rfl, ?_⟩) ?_ ?_
    rotate_left
    ·intro w'
     go_simp
     with_reducible rfl
    rotate_left
    ·simp only [Act.put, List.setIfInBounds_toArray, List.set_cons_zero, List.set_cons_succ, i64_w, i32_w]
     rfl
    refine pure_ (i := 6) (N := some 38) (v := ?_) (a' := ?_) #[true, true, true, true, true, true, true, false, true, false, false] rfl rfl (by kernel_rfl) (fun _ _ _ h => h) (Or.inl ⟨by rfl, ?_⟩) ?_ ?_
    rotate_left
    ·intro w'
     go_simp
     with_reducible rfl
    rotate_left
    ·simp only [Act.put, List.setIfInBounds_toArray, List.set_cons_zero, List.set_cons_succ, i64_w, i32_w]
     rfl
    refine pure_ (i := 7) (N := some 39) (v := ?_) (a' := ?_) #[true, true, true, true, true, true, true, true, true, false, false] rfl rfl (by kernel_rfl) (fun _ _ _ h => h) (Or.inl ⟨by rfl, ?_⟩) ?_ ?_
    rotate_left
    ·intro w'
     go_simp
     with_reducible rfl
    rotate_left
    ·simp only [Act.put, List.setIfInBounds_toArray, List.set_cons_zero, List.set_cons_succ, i64_w, i32_w]
     rfl
    exact norm_ (by simp only [putAll, Act.put, List.setIfInBounds_toArray, List.set_cons_zero, List.set_cons_succ]) (hCont (gs, lx, tx, wo.drew.heap.size) _ ⟨(hs7.below hst5.1.1).below hb6, hge7, hHeld⟩)
  rintro ⟨gs, lx, tx, g7⟩ w5 ⟨hs7, hge7, hHeld⟩
  refine norm_ (a' := ?_) ?_ ?_
  rotate_left
  ·simp only [putAll, Act.put, List.setIfInBounds_toArray, List.set_cons_zero, List.set_cons_succ]
   rfl
  refine last_ (i := 9) (N := none) #[true, true, true, true, true, true, true, true, true, true, false] rfl rfl (by kernel_rfl) (by decide) (fun K hK => ?_)
  rw [if_pos (by rfl)]
  refine wp_store_row 26 _ _ rfl g7 (setsCells 0 S) rfl rfl 26 schedZ hs7 schedSize rfl (by simp [setsCells, Value.oneCell']) ?_
  go_simp
  refine hK.out _ _ ?_
  clear hK K
  refine pure_ (i := 10) (N := some 11) (v := ?_) (a' := ?_) #[true, true, true, true, true, true, true, true, true, true, true] rfl rfl (by kernel_rfl) (fun _ _ _ h => h) (Or.inl ⟨by rfl, ?_⟩) ?_ ?_
  rotate_left
  ·intro w'
   go_simp
   with_reducible rfl
  rotate_left
  ·simp only [Act.put, List.setIfInBounds_toArray, List.set_cons_zero, List.set_cons_succ, i64_w, i32_w]
   rfl
  refine done_ (by kernel_rfl) ?_
  have hn0 := row_ne hHeld.1 hs7 (by decide)
  have hn1 := row_ne hHeld.2.1 hs7 (by decide)
  generalize hY : World.setRow _ _ _ = wo2
  have hp0 : wo2.heap[w.heap.size + 1]? = some (.cells #[.int .i64 sec, .int .i64 nano] 50 (0, 0)) := by rw [← hY]; exact (setRow_other _ _ _ _ hn0).trans hHeld.1
  have hp1 : wo2.heap[g9]? = some (.cells (fieldsC S) 88 (0, 0)) := by rw [← hY]; exact (setRow_other _ _ _ _ hn1).trans hHeld.2.1
  have hp2 : wo2.heap[g7]? = some (.cells (setsCells 0 S) 26 (0, 0)) := by rw [← hY]; exact setRow_heap _ _ _ _ _ _ hs7
  have hB2 : Below w.heap.size w wo2 := by rw [← hY]; exact below_setRow hHeld.2.2 hge7 _
  clear hY hHeld hs7 hge7 hn0 hn1 hq0 hq1 hB HNS HTO HPC
  go_upto_region 9 with fail
  refine start_ (n := 6) (S := fun w' => w'.heap[w.heap.size + 1]? = some (.cells #[.int .i64 sec, .int .i64 nano] 50 (0, 0)) ∧ w'.heap[g9]? = some (.cells (fieldsC S) 88 (0, 0)) ∧ w'.heap[g7]? = some (.cells (setsCells 0 S) 26 (0, 0)) ∧ Below w.heap.size w w') (ds := []) #[false, false, false, false, false, false] (by kernel_rfl) rfl rfl ⟨hp0, hp1, hp2, hB2.drew⟩ (fun hHeld => ?_)
  refine pure_ (i := 3) (N := some 45) (v := ?_) (a' := ?_) #[false, false, false, true, false, false] rfl rfl (by kernel_rfl) (fun _ _ _ h => h) (Or.inl ⟨by rfl, ?_⟩) ?_ ?_
  rotate_left
  ·intro w'
   go_simp
   with_reducible rfl
  rotate_left
  ·simp only [Act.put, List.setIfInBounds_toArray, List.set_cons_zero, List.set_cons_succ, i64_w, i32_w]
   rfl
  refine take_ (i := 0) (N := some 42) (v := ?_) (a' := ?_) #[true, false, false, true, false, false] rfl rfl (by kernel_rfl) (fun _ _ _ h => h) (Or.inl ⟨by rfl, ?_⟩) hHeld ?_ ?_
  rotate_left
  ·rintro w' ⟨s0, s1, s2, s3⟩
   refine exec_load_row _ _ w' 26 (.tmp 10) ?_ g7 ?_ _ _ _ _ s2 Tryz.underlying26 rfl schedSize
   ·rfl
   ·rfl
  rotate_left
  ·simp only [Act.put, List.setIfInBounds_toArray, List.set_cons_zero, List.set_cons_succ, i64_w, i32_w]
   rfl
  refine take_ (i := 1) (N := some 43) (v := ?_) (a' := ?_) #[true, true, false, true, false, false] rfl rfl (by kernel_rfl) (fun _ _ _ h => h) (Or.inl ⟨by rfl, ?_⟩) hHeld ?_ ?_
  rotate_left
  ·rintro w' ⟨s0, s1, s2, s3⟩
   refine exec_load_row _ _ w' 50 (.tmp 6) ?_ (w.heap.size + 1) ?_ _ _ _ _ s0 Tryz.underlying50 rfl instSize
   ·rfl
   ·rfl
  rotate_left
  ·simp only [Act.put, List.setIfInBounds_toArray, List.set_cons_zero, List.set_cons_succ, i64_w, i32_w]
   rfl
  refine one_ (i := 2) (N := some 44) #[true, true, true, true, false, false] rfl rfl (by kernel_rfl) (by decide) (fun K hK => ?_)
  refine goes_ Tryz.func28 (by kernel_rfl) rfl #[] (by rfl) rfl rfl (by simp only [List.map_toArray, List.map_nil]) ?_
  with_reducible refine (HU.out _).mono ?_
  rintro e w6 ⟨rfl, hb6⟩
  refine ⟨_, rfl, ?_⟩
  have hbase := Nat.lt_of_lt_of_le (row_lt hHeld.1) hb6.size
  refine hK.out _ _ ⟨row_keep hHeld.1 hb6, row_keep hHeld.2.1 hb6, row_keep hHeld.2.2.1 hb6, below_le hHeld.2.2.2 hb6⟩ (fun hHeld => ?_)
  clear hK K
  refine norm_ (a' := ?_) ?_ ?_
  rotate_left
  ·show Act.put _ (some 44) _ = _
   simp only [Act.put, List.setIfInBounds_toArray, List.set_cons_zero, List.set_cons_succ, i64_w, i32_w]
   rfl
  refine one_ (i := 4) (N := some 46) #[true, true, true, true, true, false] rfl rfl (by kernel_rfl) (by decide) (fun K hK => ?_)
  refine goes_ Tryz.func39 (by kernel_rfl) rfl #[.agg (setsCells 0 S), .agg #[.int .i64 sec, .int .i64 nano], .agg #[.slice none 0 0, .slice none 0 0, .slice none 0 0, .slice none 0 0], .int .i64 m] (by rfl) rfl rfl (by simp only [List.map_toArray, List.map_cons, List.map_nil]; rfl) ?_
  with_reducible refine (HNM.out _).mono ?_
  rintro e w7 ⟨A2, cp, L, rfl, hLn, hMany, hEnd, hOwn, hb7⟩
  refine ⟨_, rfl, ?_⟩
  refine hK.out _ _ ⟨row_keep hHeld.1 hb7, row_keep hHeld.2.1 hb7, row_keep hHeld.2.2.1 hb7, below_le hHeld.2.2.2 hb7⟩ (fun hHeld => ?_)
  clear hK K
  refine norm_ (a' := ?_) ?_ ?_
  rotate_left
  ·show Act.put _ (some 46) _ = _
   simp only [Act.put, List.setIfInBounds_toArray, List.set_cons_zero, List.set_cons_succ, i64_w, i32_w]
   rfl
  refine pure_ (i := 5) (N := some 12) (v := ?_) (a' := ?_) #[true, true, true, true, true, true] rfl rfl (by kernel_rfl) (fun _ _ _ h => h) (Or.inl ⟨by rfl, ?_⟩) ?_ ?_
  rotate_left
  ·intro w'
   go_simp
   with_reducible rfl
  rotate_left
  ·simp only [Act.put, List.setIfInBounds_toArray, List.set_cons_zero, List.set_cons_succ, i64_w, i32_w]
   rfl
  refine done_ (by kernel_rfl) ?_
  have HT0 := Lib.hid hHeld.1
  have HF0 := Lib.hid hHeld.2.1
  have HB7 := Lib.hid hHeld.2.2.2
  have HMY := Lib.hid hMany
  have HEN := Lib.hid hEnd
  have HOW := Lib.hid hOwn
  generalize w6.heap.size = base at *
  clear hHeld hMany hEnd hOwn hb7 hb6 hp0 hp1 hp2 hB2 HNM
  go_upto_region 10 with fail
  go_wp2_with fail
  go_loopw [48] (fun v48 wr => ∃ (i : Nat) (cur nn : Int), v48 = .int .i64 i ∧ i ≤ m ∧ i ≤ L.length ∧ Hid (at_ sec L i = cur ∧ goodB cur nn = true) ∧ Hid (wr.heap[w.heap.size + 1]? = some (.cells #[.int .i64 cur, .int .i64 nn] 50 (0, 0))) ∧ Hid (wr.heap[g9]? = some (.cells (fieldsC S) 88 (0, 0))) ∧ Hid (wr.ownsRow base 50 2 (.slice A2 L.length cp) L.length (instL L)) ∧ Hid (Below w.heap.size w wr)) (fun v48 _ => m - (intOf v48).toNat)
  case atStart => exact ⟨0, sec, nano, rfl, by omega, by omega, Lib.hid ⟨rfl, HGOOD.out⟩, HT0, HF0, HOW, HB7⟩
  case round =>
   obtain ⟨i, cur, nn, rfl, him, hiL, HC, HT, HF, HO, HBR⟩ := hrel
   clear HT0 HF0 HOW HB7
   by_cases hi : i < m
   ·have hd : decide ((i : Int) < m) = true := decide_eq_true (by omega)
    obtain ⟨r, hr⟩ := least_exists S (cur + 1) (yearL (cur + 1) + 5)
    have hgc := goodB_iff.1 HC.out.2
    have HCN : Hid (∀ w' : World, Calls Tryz.prog 40 #[.agg (fieldsC S), .agg #[.int .i64 cur, .int .i64 nn], .agg #[.slice none 0 0, .slice none 0 0, .slice none 0 0, .slice none 0 0]] w' fun e w2 => e = .returned (.tuple #[.agg (instC r), .bool r.isSome]) ∧ Below w'.heap.size w' w2) := Lib.hid (fun w' => (HCX.out cur nn hgc.1 hgc.2.1 w').mono (by
     rintro e w2 ⟨⟨r', hr', rfl⟩, hb⟩
     rw [least_unique hr' hr, ansI_eq]
     exact ⟨rfl, hb⟩))
    have HLS := Lib.hid hr
    clear hgc hr
    go_upto_region 13 with fail
    obtain ⟨wo, hwo⟩ : ∃ wo : World, wo = wr := ⟨_, rfl⟩
    subst hwo
    have hp0 := HT.out
    have hp1 := HF.out
    refine start_ (n := 10) (S := fun w' => w'.heap[w.heap.size + 1]? = some (.cells #[.int .i64 cur, .int .i64 nn] 50 (0, 0)) ∧ w'.heap[g9]? = some (.cells (fieldsC S) 88 (0, 0)) ∧ Below wo.heap.size wo w') (ds := [8]) #[false, false, false, false, false, false, false, false, false, false] (by kernel_rfl) rfl rfl ⟨hp0, hp1, (Below.refl _ _).drew⟩ (fun hHeld => ?_)
    refine take_ (i := 0) (N := some 52) (v := ?_) (a' := ?_) #[true, false, false, false, false, false, false, false, false, false] rfl rfl (by kernel_rfl) (fun _ _ _ h => h) (Or.inl ⟨by rfl, ?_⟩) hHeld ?_ ?_
    rotate_left
    ·rintro w' ⟨s0, s1, s2⟩
     refine exec_load_row _ _ w' 88 (.tmp 9) ?_ g9 ?_ _ _ _ _ s1 Tryz.underlying88 rfl (by rw [fieldsSize, fieldsC_size])
     ·rfl
     ·rfl
    rotate_left
    ·simp only [Act.put, List.setIfInBounds_toArray, List.set_cons_zero, List.set_cons_succ, i64_w, i32_w]
     rfl
    refine take_ (i := 1) (N := some 53) (v := ?_) (a' := ?_) #[true, true, false, false, false, false, false, false, false, false] rfl rfl (by kernel_rfl) (fun _ _ _ h => h) (Or.inl ⟨by rfl, ?_⟩) hHeld ?_ ?_
    rotate_left
    ·rintro w' ⟨s0, s1, s2⟩
     refine exec_load_row _ _ w' 50 (.tmp 6) ?_ (w.heap.size + 1) ?_ _ _ _ _ s0 Tryz.underlying50 rfl instSize
     ·rfl
     ·rfl
    rotate_left
    ·simp only [Act.put, List.setIfInBounds_toArray, List.set_cons_zero, List.set_cons_succ, i64_w, i32_w]
     rfl
    refine join_ (σ := Nat) 2 #[true, true, true, true, true, true, true, true, false, false] (fun s => [(54, .agg #[.slice none 0 0, .slice none 0 0, .slice none 0 0, .slice none 0 0]), (55, .tuple #[.agg (instC r), .bool r.isSome]), (51, .tuple #[.agg (instC r), .bool r.isSome]), (56, .agg (instC r)), (57, .bool r.isSome), (14, .pointer (some ⟨s, 0, none⟩))]) (fun s w' => InstRow w' s ∧ wo.heap.size ≤ s ∧ (w'.heap[w.heap.size + 1]? = some (.cells #[.int .i64 cur, .int .i64 nn] 50 (0, 0)) ∧ w'.heap[g9]? = some (.cells (fieldsC S) 88 (0, 0)) ∧ Below wo.heap.size wo w')) ?_ ?_
    rotate_left
    ·intro hCont
     refine two_ (i := 2) (j := 7) (Ni := some 54) (Nj := some 14) #[true, true, true, false, false, false, false, false, false, false] #[true, true, false, false, false, false, false, true, false, false] rfl rfl rfl rfl (by kernel_rfl) (by decide) (by decide) (fun K hK => ?_) (fun K hK => ?_)
     ·skip
      refine goes_ Tryz.func28 (by kernel_rfl) rfl #[] (by rfl) rfl rfl (by simp only [List.map_toArray, List.map_nil]) ?_
      with_reducible refine (HU.out _).mono ?_
      rintro e w4 ⟨rfl, hb4⟩
      refine ⟨_, rfl, ?_⟩
      refine hK.out _ _ ⟨row_keep hHeld.1 hb4, row_keep hHeld.2.1 hb4, below_le hHeld.2.2 hb4⟩ (fun hHeld => ?_)
      clear hK K
      refine norm_ (a' := ?_) ?_ ?_
      rotate_left
      ·show Act.put _ (some 54) _ = _
       simp only [Act.put, List.setIfInBounds_toArray, List.set_cons_zero, List.set_cons_succ, i64_w, i32_w]
       rfl
      refine two_ (i := 3) (j := 7) (Ni := some 55) (Nj := some 14) #[true, true, true, true, false, false, false, false, false, false] #[true, true, true, false, false, false, false, true, false, false] rfl rfl rfl rfl (by kernel_rfl) (by decide) (by decide) (fun K hK => ?_) (fun K hK => ?_)
      ·skip
       refine goes_ Tryz.func40 (by kernel_rfl) rfl #[.agg (fieldsC S), .agg #[.int .i64 cur, .int .i64 nn], .agg #[.slice none 0 0, .slice none 0 0, .slice none 0 0, .slice none 0 0]] (by rfl) rfl rfl (by simp only [List.map_toArray, List.map_cons, List.map_nil]; rfl) ?_
       with_reducible refine (HCN.out _).mono ?_
       rintro e w5 ⟨rfl, hb5⟩
       refine ⟨_, rfl, ?_⟩
       refine hK.out _ _ ⟨row_keep hHeld.1 hb5, row_keep hHeld.2.1 hb5, below_le hHeld.2.2 hb5⟩ (fun hHeld => ?_)
       clear hK K
       refine norm_ (a' := ?_) ?_ ?_
       rotate_left
       ·show Act.put _ (some 55) _ = _
        simp only [Act.put, List.setIfInBounds_toArray, List.set_cons_zero, List.set_cons_succ, i64_w, i32_w]
        rfl
       refine pure_ (i := 4) (N := some 51) (v := ?_) (a' := ?_) #[true, true, true, true, true, false, false, false, false, false] rfl rfl (by kernel_rfl) (fun _ _ _ h => h) (Or.inl ⟨by rfl, ?_⟩) ?_ ?_
       rotate_left
       ·intro w'
        go_simp
        with_reducible rfl
       rotate_left
       ·simp only [Act.put, List.setIfInBounds_toArray, List.set_cons_zero, List.set_cons_succ, i64_w, i32_w]
        rfl
       refine pure_ (i := 5) (N := some 56) (v := ?_) (a' := ?_) #[true, true, true, true, true, true, false, false, false, false] rfl rfl (by kernel_rfl) (fun _ _ _ h => h) (Or.inl ⟨by rfl, ?_⟩) ?_ ?_
       rotate_left
       ·intro w'
        go_simp
        with_reducible rfl
       rotate_left
       ·simp only [Act.put, List.setIfInBounds_toArray, List.set_cons_zero, List.set_cons_succ, i64_w, i32_w]
        rfl
       refine pure_ (i := 6) (N := some 57) (v := ?_) (a' := ?_) #[true, true, true, true, true, true, true, false, false, false] rfl rfl (by kernel_rfl) (fun _ _ _ h => h) (Or.inl ⟨by rfl, ?_⟩) ?_ ?_
       rotate_left
       ·intro w'
        go_simp
        with_reducible rfl
       rotate_left
       ·simp only [Act.put, List.setIfInBounds_toArray, List.set_cons_zero, List.set_cons_succ, i64_w, i32_w]
        rfl
       refine one_ (i := 7) (N := some 14) #[true, true, true, true, true, true, true, true, false, false] rfl rfl (by kernel_rfl) (by decide) (fun K hK => ?_)
       have hge7 := hHeld.2.2.size
       have hs7 := instRow_of hHeld.2.2
       refine value_ (by rfl) rfl (exec_alloc_inst _ _ _ rfl) ?_
       refine hK.out _ _ ⟨row_new hHeld.1, row_new hHeld.2.1, hHeld.2.2.alloc hHeld.2.2.size _⟩ (fun hHeld => ?_)
       clear hK K
       refine norm_ (a' := ?_) ?_ ?_
       rotate_left
       ·show Act.put _ (some 14) _ = _
        simp only [Act.put, List.setIfInBounds_toArray, List.set_cons_zero, List.set_cons_succ, i64_w, i32_w]
        rfl
       exact norm_ (by simp only [putAll, Act.put, List.setIfInBounds_toArray, List.set_cons_zero, List.set_cons_succ]) (hCont w5.heap.size _ ⟨hs7, hge7, hHeld⟩)
      ·skip
       have hge7 := hHeld.2.2.size
       have hs7 := instRow_of hHeld.2.2
       refine value_ (by rfl) rfl (exec_alloc_inst _ _ _ rfl) ?_
       refine hK.out _ _ ⟨row_new hHeld.1, row_new hHeld.2.1, hHeld.2.2.alloc hHeld.2.2.size _⟩ (fun hHeld => ?_)
       clear hK K
       refine norm_ (a' := ?_) ?_ ?_
       rotate_left
       ·show Act.put _ (some 14) _ = _
        simp only [Act.put, List.setIfInBounds_toArray, List.set_cons_zero, List.set_cons_succ, i64_w, i32_w]
        rfl
       refine one_ (i := 3) (N := some 55) #[true, true, true, true, false, false, false, true, false, false] rfl rfl (by kernel_rfl) (by decide) (fun K hK => ?_)
       refine goes_ Tryz.func40 (by kernel_rfl) rfl #[.agg (fieldsC S), .agg #[.int .i64 cur, .int .i64 nn], .agg #[.slice none 0 0, .slice none 0 0, .slice none 0 0, .slice none 0 0]] (by rfl) rfl rfl (by simp only [List.map_toArray, List.map_cons, List.map_nil]; rfl) ?_
       with_reducible refine (HCN.out _).mono ?_
       rintro e w5 ⟨rfl, hb5⟩
       refine ⟨_, rfl, ?_⟩
       refine hK.out _ _ ⟨row_keep hHeld.1 hb5, row_keep hHeld.2.1 hb5, below_le hHeld.2.2 hb5⟩ (fun hHeld => ?_)
       clear hK K
       refine norm_ (a' := ?_) ?_ ?_
       rotate_left
       ·show Act.put _ (some 55) _ = _
        simp only [Act.put, List.setIfInBounds_toArray, List.set_cons_zero, List.set_cons_succ, i64_w, i32_w]
        rfl
       refine pure_ (i := 4) (N := some 51) (v := ?_) (a' := ?_) #[true, true, true, true, true, false, false, true, false, false] rfl rfl (by kernel_rfl) (fun _ _ _ h => h) (Or.inl ⟨by rfl, ?_⟩) ?_ ?_
       rotate_left
       ·intro w'
        go_simp
        with_reducible rfl
       rotate_left
       ·simp only [Act.put, List.setIfInBounds_toArray, List.set_cons_zero, List.set_cons_succ, i64_w, i32_w]
        rfl
       refine pure_ (i := 5) (N := some 56) (v := ?_) (a' := ?_) #[true, true, true, true, true, true, false, true, false, false] rfl rfl (by kernel_rfl) (fun _ _ _ h => h) (Or.inl ⟨by rfl, ?_⟩) ?_ ?_
       rotate_left
       ·intro w'
        go_simp
        with_reducible rfl
       rotate_left
       ·simp only [Act.put, List.setIfInBounds_toArray, List.set_cons_zero, List.set_cons_succ, i64_w, i32_w]
        rfl
       refine pure_ (i := 6) (N := some 57) (v := ?_) (a' := ?_) #[true, true, true, true, true, true, true, true, false, false] rfl rfl (by kernel_rfl) (fun _ _ _ h => h) (Or.inl ⟨by rfl, ?_⟩) ?_ ?_
       rotate_left
       ·intro w'
        go_simp
        with_reducible rfl
       rotate_left
       ·simp only [Act.put, List.setIfInBounds_toArray, List.set_cons_zero, List.set_cons_succ, i64_w, i32_w]
        rfl
       exact norm_ (by simp only [putAll, Act.put, List.setIfInBounds_toArray, List.set_cons_zero, List.set_cons_succ]) (hCont w4.heap.size _ ⟨hs7.below hb5, hge7, hHeld⟩)
     ·skip
      have hge7 := hHeld.2.2.size
      have hs7 := instRow_of hHeld.2.2
      refine value_ (by rfl) rfl (exec_alloc_inst _ _ _ rfl) ?_
      refine hK.out _ _ ⟨row_new hHeld.1, row_new hHeld.2.1, hHeld.2.2.alloc hHeld.2.2.size _⟩ (fun hHeld => ?_)
      clear hK K
      refine norm_ (a' := ?_) ?_ ?_
      rotate_left
      ·show Act.put _ (some 14) _ = _
       simp only [Act.put, List.setIfInBounds_toArray, List.set_cons_zero, List.set_cons_succ, i64_w, i32_w]
       rfl
      refine one_ (i := 2) (N := some 54) #[true, true, true, false, false, false, false, true, false, false] rfl rfl (by kernel_rfl) (by decide) (fun K hK => ?_)
      refine goes_ Tryz.func28 (by kernel_rfl) rfl #[] (by rfl) rfl rfl (by simp only [List.map_toArray, List.map_nil]) ?_
      with_reducible refine (HU.out _).mono ?_
      rintro e w4 ⟨rfl, hb4⟩
      refine ⟨_, rfl, ?_⟩
      refine hK.out _ _ ⟨row_keep hHeld.1 hb4, row_keep hHeld.2.1 hb4, below_le hHeld.2.2 hb4⟩ (fun hHeld => ?_)
      clear hK K
      refine norm_ (a' := ?_) ?_ ?_
      rotate_left
      ·show Act.put _ (some 54) _ = _
       simp only [Act.put, List.setIfInBounds_toArray, List.set_cons_zero, List.set_cons_succ, i64_w, i32_w]
       rfl
      refine one_ (i := 3) (N := some 55) #[true, true, true, true, false, false, false, true, false, false] rfl rfl (by kernel_rfl) (by decide) (fun K hK => ?_)
      refine goes_ Tryz.func40 (by kernel_rfl) rfl #[.agg (fieldsC S), .agg #[.int .i64 cur, .int .i64 nn], .agg #[.slice none 0 0, .slice none 0 0, .slice none 0 0, .slice none 0 0]] (by rfl) rfl rfl (by simp only [List.map_toArray, List.map_cons, List.map_nil]; rfl) ?_
      with_reducible refine (HCN.out _).mono ?_
      rintro e w5 ⟨rfl, hb5⟩
      refine ⟨_, rfl, ?_⟩
      refine hK.out _ _ ⟨row_keep hHeld.1 hb5, row_keep hHeld.2.1 hb5, below_le hHeld.2.2 hb5⟩ (fun hHeld => ?_)
      clear hK K
      refine norm_ (a' := ?_) ?_ ?_
      rotate_left
      ·show Act.put _ (some 55) _ = _
       simp only [Act.put, List.setIfInBounds_toArray, List.set_cons_zero, List.set_cons_succ, i64_w, i32_w]
       rfl
      refine pure_ (i := 4) (N := some 51) (v := ?_) (a' := ?_) #[true, true, true, true, true, false, false, true, false, false] rfl rfl (by kernel_rfl) (fun _ _ _ h => h) (Or.inl ⟨by rfl, ?_⟩) ?_ ?_
      rotate_left
      ·intro w'
       go_simp
       with_reducible rfl
      rotate_left
      ·simp only [Act.put, List.setIfInBounds_toArray, List.set_cons_zero, List.set_cons_succ, i64_w, i32_w]
       rfl
      refine pure_ (i := 5) (N := some 56) (v := ?_) (a' := ?_) #[true, true, true, true, true, true, false, true, false, false] rfl rfl (by kernel_rfl) (fun _ _ _ h => h) (Or.inl ⟨by rfl, ?_⟩) ?_ ?_
      rotate_left
      ·intro w'
       go_simp
       with_reducible rfl
      rotate_left
      ·simp only [Act.put, List.setIfInBounds_toArray, List.set_cons_zero, List.set_cons_succ, i64_w, i32_w]
       rfl
      refine pure_ (i := 6) (N := some 57) (v := ?_) (a' := ?_) #[true, true, true, true, true, true, true, true, false, false] rfl rfl (by kernel_rfl) (fun _ _ _ h => h) (Or.inl ⟨by rfl, ?_⟩) ?_ ?_
      rotate_left
      ·intro w'
       go_simp
       with_reducible rfl
      rotate_left
      ·simp only [Act.put, List.setIfInBounds_toArray, List.set_cons_zero, List.set_cons_succ, i64_w, i32_w]
       rfl
      exact norm_ (by simp only [putAll, Act.put, List.setIfInBounds_toArray, List.set_cons_zero, List.set_cons_succ]) (hCont wo.drew.heap.size _ ⟨(hs7.below hb4).below hb5, hge7, hHeld⟩)
    rintro g7 w5 ⟨hs7, hge7, hHeld⟩
    refine norm_ (a' := ?_) ?_ ?_
    rotate_left
    ·simp only [putAll, Act.put, List.setIfInBounds_toArray, List.set_cons_zero, List.set_cons_succ]
     rfl
    refine last_ (i := 8) (N := none) #[true, true, true, true, true, true, true, true, true, false] rfl rfl (by kernel_rfl) (by decide) (fun K hK => ?_)
    rw [if_pos (by rfl)]
    refine wp_store_row 50 _ _ rfl g7 (instC r) rfl rfl 50 instZ hs7 (by rw [instC_size]; exact instSize) (by rw [instC_size]; rfl) (instC_one r) ?_
    go_simp
    refine hK.out _ _ ?_
    clear hK K
    refine pure_ (i := 9) (N := some 15) (v := ?_) (a' := ?_) #[true, true, true, true, true, true, true, true, true, true] rfl rfl (by kernel_rfl) (fun _ _ _ h => h) (Or.inl ⟨by rfl, ?_⟩) ?_ ?_
    rotate_left
    ·intro w'
     go_simp
     with_reducible rfl
    rotate_left
    ·simp only [Act.put, List.setIfInBounds_toArray, List.set_cons_zero, List.set_cons_succ, i64_w, i32_w]
     rfl
    refine done_ (by kernel_rfl) ?_
    have lq0 := row_lt hp0
    have lq1 := row_lt hp1
    generalize hY : World.setRow _ _ _ = wx
    have HX := Lib.hid (show wx.heap[g7]? = some (.cells (instC r) 50 (0, 0)) by rw [← hY]; exact setRow_heap _ _ _ _ _ _ hs7)
    have HTX := Lib.hid (show wx.heap[w.heap.size + 1]? = some (.cells #[.int .i64 cur, .int .i64 nn] 50 (0, 0)) by rw [← hY]; exact (setRow_other _ _ _ _ (by omega)).trans hHeld.1)
    have HFX := Lib.hid (show wx.heap[g9]? = some (.cells (fieldsC S) 88 (0, 0)) by rw [← hY]; exact (setRow_other _ _ _ _ (by omega)).trans hHeld.2.1)
    have HBX := Lib.hid (show Below wo.heap.size wo wx by rw [← hY]; exact below_setRow hHeld.2.2 hge7 _)
    have HOX := Lib.hid (own_bel HO.out HBX.out)
    have HBW := Lib.hid (below_le HBR.out HBX.out)
    have hwx : w.heap.size + 1 < wx.heap.size := row_lt HTX.out
    clear hY hHeld hs7 hge7 hp0 hp1 lq0 lq1 HT HF HO HBR HBX HCN
    cases r with
    | none =>
     dsimp only [Option.isSome]
     have hLi : ((L.length : Int) == (i : Int)) = true := by
      rw [beq_iff_eq]
      by_cases hlt : i < L.length
      ·exfalso
       have h1 := HMY.out i hlt
       rw [HC.out.1] at h1
       have := least_unique HLS.out h1
       cases this
      ·omega
     go_wp2_with fail
     go_ret
     exact ⟨rfl, HBW.out⟩
    | some x =>
     dsimp only [Option.isSome]
     unfold instC at HX
     dsimp only at HX
     go_wp2_with (refine wpList_load_rowG (by rfl) 50 _ rfl g7 rfl _ _ _ _ HX.out Tryz.underlying50 rfl instSize ?_)
     refine (HGD.out x 0 _).mono ?_
     rintro e w8 ⟨rfl, hb8⟩
     have HX8 := Lib.hid (row_keep HX.out hb8)
     have HT8 := Lib.hid (row_keep HTX.out hb8)
     have HF8 := Lib.hid (row_keep HFX.out hb8)
     have HO8 := Lib.hid (own_bel HOX.out hb8)
     have HB8 := Lib.hid (below_le HBW.out hb8)
     clear hb8 HX HTX HFX HOX HBW
     cases hgx : goodB x 0 with
     | false =>
      go_wp2_with fail
      go_ret
      exact ⟨rfl, HB8.out⟩
     | true =>
      have hiLt : i < L.length := by
       by_cases h : i < L.length
       ·exact h
       ·exfalso
        have hli : L.length = i := by omega
        have h1 := HEN.out (by omega)
        rw [hli, HC.out.1] at h1
        have := least_unique HLS.out h1
        cases this
      have hat : at_ sec L (i + 1) = x := by
       have h1 := HMY.out i hiLt
       rw [HC.out.1] at h1
       have := least_unique HLS.out h1
       simp only [Option.some.injEq] at this
       exact this.symm
      obtain ⟨q, cq, hq, -, -⟩ := HO8.out.form (by omega)
      simp only [Value.slice.injEq, true_and] at hq
      obtain ⟨rfl, rfl⟩ := hq
      have HRG := Lib.hid (inst_range HO8.out sec i hiLt)
      rw [hat] at HRG
      have hd2 : decide ((L.length : Int) ≤ i) = false := decide_eq_false (by omega)
      have hd3 : decide ((i : Int) ≥ L.length) = false := decide_eq_false (by omega)
      have hd4 : decide (L.length ≤ i) = false := decide_eq_false (by omega)
      have hd5 : decide (i ≥ L.length) = false := decide_eq_false (by omega)
      have hi0 : (0 : Int) ≤ i := by omega
      have hil : (i : Int) < L.length := by omega
      have HAT := Lib.hid hat
      have HGX := Lib.hid hgx
      clear hat hgx
      go_upto_region 16 with fail
      obtain ⟨wo, hwo⟩ : ∃ wo : World, wo = w8 := ⟨_, rfl⟩
      subst hwo
      have hp0 := HX8.out
      have hp1 := HRG.out
      refine start_ (n := 12) (S := fun w' => w'.heap[g7]? = some (.cells #[.int .i64 x, .int .i64 0] 50 (0, 0)) ∧ w'.rangeAt q (i * 2) [.int .i64 x, .int .i64 0] ∧ Below wo.heap.size wo w') (ds := []) #[false, false, false, false, false, false, false, false, false, false, false, false] (by kernel_rfl) rfl rfl ⟨hp0, hp1, (Below.refl _ _).drew⟩ (fun hHeld => ?_)
      refine pure_ (i := 0) (N := some 72) (v := ?_) (a' := ?_) #[true, false, false, false, false, false, false, false, false, false, false, false] rfl rfl (by kernel_rfl) (fun _ _ _ h => h) (Or.inl ⟨by rfl, ?_⟩) ?_ ?_
      rotate_left
      ·intro w'
       go_simp
       with_reducible rfl
      rotate_left
      ·simp only [Act.put, List.setIfInBounds_toArray, List.set_cons_zero, List.set_cons_succ, i64_w, i32_w]
       rfl
      refine pure_ (i := 1) (N := some 73) (v := ?_) (a' := ?_) #[true, true, false, false, false, false, false, false, false, false, false, false] rfl rfl (by kernel_rfl) (fun _ _ _ h => h) (Or.inl ⟨by rfl, ?_⟩) ?_ ?_
      rotate_left
      ·intro w'
       go_simp
       with_reducible rfl
      rotate_left
      ·simp only [Act.put, List.setIfInBounds_toArray, List.set_cons_zero, List.set_cons_succ, i64_w, i32_w]
       rfl
      refine pure_ (i := 2) (N := some 74) (v := ?_) (a' := ?_) #[true, true, true, false, false, false, false, false, false, false, false, false] rfl rfl (by kernel_rfl) (fun _ _ _ h => h) (Or.inl ⟨by rfl, ?_⟩) ?_ ?_
      rotate_left
      ·intro w'
       go_simp
       with_reducible rfl
      rotate_left
      ·simp only [Act.put, List.setIfInBounds_toArray, List.set_cons_zero, List.set_cons_succ, i64_w, i32_w]
       rfl
      refine pure_ (i := 3) (N := some 75) (v := ?_) (a' := ?_) #[true, true, true, true, false, false, false, false, false, false, false, false] rfl rfl (by kernel_rfl) (fun _ _ _ h => h) (Or.inl ⟨by rfl, ?_⟩) ?_ ?_
      rotate_left
      ·intro w'
       go_simp
       with_reducible rfl
      rotate_left
      ·simp only [Act.put, List.setIfInBounds_toArray, List.set_cons_zero, List.set_cons_succ, i64_w, i32_w]
       rfl
      refine pure_ (i := 4) (N := some 76) (v := ?_) (a' := ?_) #[true, true, true, true, true, false, false, false, false, false, false, false] rfl rfl (by kernel_rfl) (fun _ _ _ h => h) (Or.inl ⟨by rfl, ?_⟩) ?_ ?_
      rotate_left
      ·intro w'
       go_simp
       with_reducible rfl
      rotate_left
      ·simp only [Act.put, List.setIfInBounds_toArray, List.set_cons_zero, List.set_cons_succ, i64_w, i32_w]
       rfl
      refine pure_ (i := 5) (N := some 77) (v := ?_) (a' := ?_) #[true, true, true, true, true, true, false, false, false, false, false, false] rfl rfl (by kernel_rfl) (fun _ _ _ h => h) (Or.inl ⟨by rfl, ?_⟩) ?_ ?_
      rotate_left
      ·intro w'
       go_simp
       with_reducible rfl
      rotate_left
      ·simp only [Act.put, List.setIfInBounds_toArray, List.set_cons_zero, List.set_cons_succ, i64_w, i32_w]
       rfl
      refine pure_ (i := 6) (N := some 78) (v := ?_) (a' := ?_) #[true, true, true, true, true, true, true, false, false, false, false, false] rfl rfl (by kernel_rfl) (fun _ _ _ h => h) (Or.inl ⟨by rfl, ?_⟩) ?_ ?_
      rotate_left
      ·intro w'
       go_simp
       with_reducible rfl
      rotate_left
      ·simp only [Act.put, List.setIfInBounds_toArray, List.set_cons_zero, List.set_cons_succ, i64_w, i32_w]
       rfl
      refine pure_ (i := 7) (N := some 79) (v := ?_) (a' := ?_) #[true, true, true, true, true, true, true, true, false, false, false, false] rfl rfl (by kernel_rfl) (fun _ _ _ h => h) (Or.inl ⟨by rfl, ?_⟩) ?_ ?_
      rotate_left
      ·intro w'
       go_simp
       with_reducible rfl
      rotate_left
      ·simp only [Act.put, List.setIfInBounds_toArray, List.set_cons_zero, List.set_cons_succ, i64_w, i32_w]
       rfl
      refine take_ (i := 8) (N := some 80) (v := ?_) (a' := ?_) #[true, true, true, true, true, true, true, true, true, false, false, false] rfl rfl (by kernel_rfl) (fun _ _ _ h => h) (Or.inl ⟨by rfl, ?_⟩) hHeld ?_ ?_
      rotate_left
      ·rintro w' ⟨s0, s1, s2⟩
       refine exec_load_midS _ _ w' 50 (.tmp 79) ?_ q (i * 2) ?_ [.int .i64 x, .int .i64 0] _ s1 Tryz.underlying50 rfl instSize
       ·rfl
       ·rfl
      rotate_left
      ·simp only [Act.put, List.setIfInBounds_toArray, List.set_cons_zero, List.set_cons_succ, i64_w, i32_w]
       rfl
      refine take_ (i := 9) (N := some 81) (v := ?_) (a' := ?_) #[true, true, true, true, true, true, true, true, true, true, false, false] rfl rfl (by kernel_rfl) (fun _ _ _ h => h) (Or.inl ⟨by rfl, ?_⟩) hHeld ?_ ?_
      rotate_left
      ·rintro w' ⟨s0, s1, s2⟩
       refine exec_load_row _ _ w' 50 (.tmp 14) ?_ g7 ?_ _ _ _ _ s0 Tryz.underlying50 rfl instSize
       ·rfl
       ·rfl
      rotate_left
      ·simp only [Act.put, List.setIfInBounds_toArray, List.set_cons_zero, List.set_cons_succ, i64_w, i32_w]
       rfl
      refine pure_ (i := 10) (N := some 82) (v := ?_) (a' := ?_) #[true, true, true, true, true, true, true, true, true, true, true, false] rfl rfl (by kernel_rfl) (fun _ _ _ h => h) (Or.inl ⟨by rfl, ?_⟩) ?_ ?_
      rotate_left
      ·intro w'
       go_simp
       with_reducible rfl
      rotate_left
      ·simp only [Act.put, List.setIfInBounds_toArray, List.set_cons_zero, List.set_cons_succ, i64_w, i32_w]
       rfl
      refine pure_ (i := 11) (N := some 83) (v := ?_) (a' := ?_) #[true, true, true, true, true, true, true, true, true, true, true, true] rfl rfl (by kernel_rfl) (fun _ _ _ h => h) (Or.inl ⟨by rfl, ?_⟩) ?_ ?_
      rotate_left
      ·intro w'
       go_simp
       with_reducible rfl
      rotate_left
      ·simp only [Act.put, List.setIfInBounds_toArray, List.set_cons_zero, List.set_cons_succ, i64_w, i32_w]
       rfl
      refine done_ (by kernel_rfl) ?_
      have hdr := hHeld.2.2
      have HX9 := Lib.hid hHeld.1
      clear hHeld hp0 hp1 HX8
      generalize wo.drew = w9 at *
      have HT9 := Lib.hid (row_keep HT8.out hdr)
      have HF9 := Lib.hid (row_keep HF8.out hdr)
      have HO9 := Lib.hid (own_bel HO8.out hdr)
      have HB9 := Lib.hid (below_le HB8.out hdr)
      have hn9 : g9 ≠ w.heap.size + 1 := row_ne HF9.out HT9.out (by decide)
      clear hdr HT8 HF8 HO8 HB8 HRG
      go_wp2_with (first | (refine wpList_load_row rfl 50 _ rfl g7 rfl _ _ _ _ HX9.out Tryz.underlying50 rfl instSize ?_) | (refine wpList_store_row rfl 50 _ _ rfl (w.heap.size + 1) #[.int .i64 x, .int .i64 0] rfl rfl 50 _ HT9.out instSize rfl (by simp [Value.oneCell']) ?_; generalize hZ : World.setRow _ _ _ = wz; have HTZ := Lib.hid (show wz.heap[w.heap.size + 1]? = some (.cells #[.int .i64 x, .int .i64 0] 50 (0, 0)) by rw [← hZ]; exact setRow_heap _ _ _ _ _ _ HT9.out); have HFZ := Lib.hid (show wz.heap[g9]? = some (.cells (fieldsC S) 88 (0, 0)) by rw [← hZ]; exact (setRow_other _ _ _ _ hn9).trans HF9.out); have HBZ := Lib.hid (show Below w.heap.size w wz by rw [← hZ]; exact below_setRow HB9.out (by omega) _); have HOZ := Lib.hid (show wz.ownsRow base 50 2 (.slice (some ⟨q, 0, none⟩) L.length cp) L.length (instL L) by rw [← hZ]; exact own_move HO9.out (fun b hb => setRow_other _ _ _ _ (by have := (HO9.out.lt b hb).1; omega))); clear hZ))
      go_roundw
      case rel => exact ⟨i + 1, x, 0, by go_num, by omega, by omega, Lib.hid ⟨HAT.out, HGX.out⟩, HTZ, HFZ, HOZ, HBZ⟩
      case measure => simp [intOf]; omega
   ·have hd : decide ((i : Int) < m) = false := decide_eq_false (by omega)
    have hLm : ((L.length : Int) == (m : Int)) = true := by
     rw [beq_iff_eq]
     omega
    go_wp2_with fail
    go_ret
    exact ⟨rfl, HBR.out⟩
end Go.Proofs.YtmecbmgfacpecaaGreatDoor.CronN
namespace Go.Proofs.YtmecbmgfacpecaaGreatDoor.Cron
open Go Go.RowKit Go.Proofs.YtmecbmgfacpecaaGreatDoor.Cal Go.Proofs.YtmecbmgfacpecaaGreatDoor.CronN Go.Proofs.YtmecbmgfacpecaaGreatDoorW.PrintWords
set_option linter.unusedVariables false
theorem spelled_walk (ev : Bool) (d : Int) (S : Sets) (hS : S.ok) (A : Option Addr) (l : List Int) (cap : Nat) (sec nano n : Int) (wf : (Lit.int .i64 n).wf = true) (W : World) (hL : laidMetH Tryz.prog Rows.fnCronSpelledNextRow.laid W)
  (hk : l.length ≤ cap ∧ (∀ x ∈ l, (0 : Int) ≤ x ∧ x < 256) ∧ Kd.C (Kd.int .u8) W A l.length l) :
  Calls Tryz.prog 7 #[.agg (schedC ev d S), .slice A l.length cap, .agg #[.int .i64 sec, .int .i64 nano], .int .i64 n] W fun e w' => e = .returned (.bool true) ∧ Below W.heap.size W w' := by
 rw [MakeChecks.laidMetH_plain _ _ _ (by kernel_rfl)] at hL
 exact lawSpelled_any ev d S hS A l cap sec nano n hk.1 hk.2.1 W hk.2.2 (g_of_met hL (by first | exact List.mem_of_getElem? (i := 0) rfl | exact List.mem_of_getElem? (i := 1) rfl | exact List.mem_of_getElem? (i := 2) rfl | exact List.mem_of_getElem? (i := 3) rfl | exact List.mem_of_getElem? (i := 4) rfl | exact List.mem_of_getElem? (i := 5) rfl | exact List.mem_of_getElem? (i := 6) rfl | exact List.mem_of_getElem? (i := 7) rfl | exact List.mem_of_getElem? (i := 8) rfl | exact List.mem_of_getElem? (i := 9) rfl) (by first | exact List.mem_of_getElem? (i := 0) rfl | exact List.mem_of_getElem? (i := 1) rfl | exact List.mem_of_getElem? (i := 2) rfl | exact List.mem_of_getElem? (i := 3) rfl | exact List.mem_of_getElem? (i := 4) rfl | exact List.mem_of_getElem? (i := 5) rfl | exact List.mem_of_getElem? (i := 6) rfl | exact List.mem_of_getElem? (i := 7) rfl | exact List.mem_of_getElem? (i := 8) rfl | exact List.mem_of_getElem? (i := 9) rfl))
end Go.Proofs.YtmecbmgfacpecaaGreatDoor.Cron
