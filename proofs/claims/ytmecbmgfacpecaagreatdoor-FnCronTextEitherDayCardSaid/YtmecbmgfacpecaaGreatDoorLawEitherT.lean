/- FnCronTextEitherDay's walk: two fields of days, neither with a star: the earlier of the two halves. -/
import Derived.Test.YtmecbmgfacpecaaGreatDoorGrF
import Derived.Test.YtmecbmgfacpecaaGreatDoorGrL
import Derived.Test.YtmecbmgfacpecaaGreatDoorGrM
namespace Go.Proofs.YtmecbmgfacpecaaGreatDoor.Cron
open Go Go.RowKit Go.Proofs.YtmecbmgfacpecaaGreatDoor.Text Go.Proofs.YtmecbmgfacpecaaGreatDoor.Bits Go.Proofs.YtmecbmgfacpecaaGreatDoorW.PrintWords Go.Proofs.YtmecbmgfacpecaaGreatDoorW.PrintLast Go.Proofs.YtmecbmgfacpecaaGreatDoorW.PrintMore Go.Proofs.YtmecbmgfacpecaaGreatDoor.Cal Go.Proofs.YtmecbmgfacpecaaGreatDoor.Pr
open Go.Proofs.YtmecbmgfacpecaaGreatDoor.CronN (least_exists goodB goodB_iff good_any nextUtc_any cronUtc_any cronNone_any row_keep row_lt row_new wpList_load_rowG run_alloc_inst instZ InstRow instRow_of exec_alloc_inst w64)
set_option linter.unusedVariables false
set_option linter.unusedSimpArgs false
def cs5 (l : List ByteArray) : Array Value := (l.map Value.string).toArray
def wd (l : List ByteArray) (j : Nat) : ByteArray := l.getD j ⟨#[]⟩
def mk (b : Bool) : ByteArray := if b then ⟨#[63]⟩ else ⟨#[42]⟩
structure OkW (l : List ByteArray) (j : Nat) : Prop where
 size : (wd l j).size ≤ 256
 word : Word (wd l j)
 ascii : Ascii (wd l j)
 low : j = 0 → ∀ c ∈ (wd l j).data.toList, c.toNat < 64
 bits : ∃ b, fieldS (valK (j + 1)) (loK (j + 1)) (hiK (j + 1)) (wd l j).data.toList = some b ∧ b < 2 ^ 64 ∧ ((j = 2 ∨ j = 4) → b.testBit 63 = false)
theorem lo_hi (k : Nat) : loK k ≤ hiK k ∧ hiK k ≤ 62 := by
 unfold loK hiK
 constructor <;> (repeat' split) <;> omega
theorem setBits_lt (star : Bool) (p : Nat → Bool) : setBits star p < 2 ^ 64 := by
 unfold setBits
 refine Nat.or_lt_two_pow (Nat.lt_of_lt_of_le (mkBits_lt _ _) (by decide)) ?_
 split <;> decide
theorem setBits_star (star : Bool) (p : Nat → Bool) : (setBits star p).testBit 63 = star := by
 unfold setBits
 rw [Nat.testBit_or, mkBits_test]
 cases star
 ·simp
 ·simp
  decide
theorem word_mk (b : Bool) : Word (mk b) ∧ Ascii (mk b) ∧ (mk b).size ≤ 256 := by
 cases b
 ·refine ⟨⟨by simp [mk], fun c hc => ?_⟩, fun c hc => ?_, by decide⟩
  ·obtain rfl : c = 42 := by simpa [mk] using hc
   decide
  ·obtain rfl : c = 42 := by simpa [mk] using hc
   decide
 ·refine ⟨⟨by simp [mk], fun c hc => ?_⟩, fun c hc => ?_, by decide⟩
  ·obtain rfl : c = 63 := by simpa [mk] using hc
   decide
  ·obtain rfl : c = 63 := by simpa [mk] using hc
   decide
theorem star_dom (b : Bool) : fieldS (valK 3) 1 31 (mk b).data.toList = some allDom := by
 cases b
 ·show fieldS (valK 3) 1 31 [42] = _
  decide +kernel
 ·show fieldS (valK 3) 1 31 [63] = _
  decide +kernel
theorem star_dow (b : Bool) : fieldS (valK 5) 0 6 (mk b).data.toList = some allDow := by
 cases b
 ·show fieldS (valK 5) 0 6 [42] = _
  decide +kernel
 ·show fieldS (valK 5) 0 6 [63] = _
  decide +kernel
theorem ascii_join : ∀ (l : List ByteArray), (∀ x ∈ l, Ascii x) → Ascii (ba (joinL l)) := by
 have tail : ∀ (l : List ByteArray), (∀ x ∈ l, Ascii x) → ∀ c ∈ joinL.joinTail l, c.toNat < 128 := by
  intro l
  induction l with
  | nil => intro _ c hc; cases hc
  | cons x xs ih =>
   intro h c hc
   simp only [joinL.joinTail, List.cons_append, List.mem_cons, List.mem_append] at hc
   rcases hc with rfl | hc | hc
   ·decide
   ·exact h x (by simp) c hc
   ·exact ih (fun y hy => h y (by simp [hy])) c hc
 intro l h c hc
 rw [ba_list] at hc
 cases l with
 | nil => cases hc
 | cons x xs =>
  simp only [joinL, List.mem_append] at hc
  rcases hc with hc | hc
  ·exact h x (by simp) c hc
  ·exact tail xs (fun y hy => h y (by simp [hy])) c hc
theorem head_ok {x : ByteArray} (hx : ∀ c ∈ x.data.toList, c.toNat < 64) (hne : x.data.toList ≠ []) (r : List UInt8) (p : UInt8) (q : List UInt8) (hp : 64 ≤ p.toNat) :
  Lib.hasPrefix (ba (x.data.toList ++ r)).data.toList (p :: q) = false := by
 rw [ba_list]
 cases hl : x.data.toList with
 | nil => exact absurd hl hne
 | cons c cs =>
  have h1 := hx c (by rw [hl]; simp)
  have hc : p ≠ c := by rintro rfl; omega
  simp [Lib.hasPrefix, List.isPrefixOf, hc]
theorem five_any (l : List ByteArray) (h5 : l.length = 5) (hw : ∀ x ∈ l, Word x ∧ Ascii x ∧ x.size ≤ 256) (hlow : ∀ c ∈ (wd l 0).data.toList, c.toNat < 64) {b1 b2 b3 b4 b5 : Nat}
  (e1 : fieldS (valK 1) 0 59 (wd l 0).data.toList = some b1) (e2 : fieldS (valK 2) 0 23 (wd l 1).data.toList = some b2) (e3 : fieldS (valK 3) 1 31 (wd l 2).data.toList = some b3)
  (e4 : fieldS (valK 4) 1 12 (wd l 3).data.toList = some b4) (e5 : fieldS (valK 5) 0 6 (wd l 4).data.toList = some b5) (w : World) (hg : G w) :
  Calls Tryz.prog 25 #[.string (ba (joinL l))] w fun e w' => e = .returned (.tuple #[.agg (setsCells 0 { sec := 1, min := b1, hour := b2, dom := b3, month := b4, dow := b5 }), .bool true]) ∧ Below w.heap.size w w' := by
 have ha := ascii_join l (fun x hx => (hw x hx).2.1)
 have hp : parseS (ba (joinL l)) 380 = some [1, b1, b2, b3, b4, b5] := by
  rw [parse_five l h5 (fun x hx => (hw x hx).1) ha]
  exact six_some (by show fieldS (valK 0) 0 59 [48] = some 1; decide +kernel) e1 e2 e3 e4 e5
 have hsz : (ba (joinL l)).size ≤ 4294967296 := by
  rw [ba_size]
  have := joinL_len 256 l (fun x hx => (hw x hx).2.2)
  rw [h5] at this
  omega
 obtain ⟨x, xs, rfl⟩ : ∃ x xs, l = x :: xs := by
  cases l with
  | nil => cases h5
  | cons x xs => exact ⟨x, xs, rfl⟩
 have hne : x.data.toList ≠ [] := (hw x (by simp)).1.1
 have he : joinL (x :: xs) = x.data.toList ++ joinL.joinTail xs := rfl
 have hh := fun p q hp => head_ok (x := x) hlow hne (joinL.joinTail xs) p q hp
 have := parseStandard_any (ba (joinL (x :: xs))) hsz (by rw [he]; exact hh 84 _ (by decide)) (by rw [he]; exact hh 67 _ (by decide)) (by rw [he]; exact hh 64 _ (by decide)) w hg
 rw [hp] at this
 refine this.mono ?_
 rintro e w' ⟨rfl, hb⟩
 exact ⟨rfl, hb⟩
theorem size5 : (Tryz.prog.info? 48).map (·.size) = some 5 := by kernel_rfl
theorem cs5_size {l : List ByteArray} (h : l.length = 5) : (cs5 l).size = 5 := by simp [cs5, h]
theorem cs5_one (l : List ByteArray) : (cs5 l).all (·.oneCell') = true := by
 unfold cs5
 rw [Array.all_eq_true']
 intro x hx
 simp only [List.mem_toArray, List.mem_map] at hx
 obtain ⟨y, _, rfl⟩ := hx
 rfl
theorem index5_0 (a b c d e : ByteArray) (w : World) : (Instr.index 48 (.agg #[.string a, .string b, .string c, .string d, .string e]) (.int .i64 0)).run Tryz.prog w = .ok (.string a) w := by kernel_rfl
theorem index5_1 (a b c d e : ByteArray) (w : World) : (Instr.index 48 (.agg #[.string a, .string b, .string c, .string d, .string e]) (.int .i64 1)).run Tryz.prog w = .ok (.string b) w := by kernel_rfl
theorem index5_2 (a b c d e : ByteArray) (w : World) : (Instr.index 48 (.agg #[.string a, .string b, .string c, .string d, .string e]) (.int .i64 2)).run Tryz.prog w = .ok (.string c) w := by kernel_rfl
theorem index5_3 (a b c d e : ByteArray) (w : World) : (Instr.index 48 (.agg #[.string a, .string b, .string c, .string d, .string e]) (.int .i64 3)).run Tryz.prog w = .ok (.string d) w := by kernel_rfl
theorem index5_4 (a b c d e : ByteArray) (w : World) : (Instr.index 48 (.agg #[.string a, .string b, .string c, .string d, .string e]) (.int .i64 4)).run Tryz.prog w = .ok (.string e) w := by kernel_rfl
theorem index5 (l : List ByteArray) (h : l.length = 5) (j : Nat) (hj : j < 5) (w : World) : (Instr.index 48 (.agg (cs5 l)) (.int .i64 (j : Int))).run Tryz.prog w = .ok (.string (wd l j)) w := by
 match l, h with
 | [a, b, c, d, e], _ =>
  rcases (show j = 0 ∨ j = 1 ∨ j = 2 ∨ j = 3 ∨ j = 4 by omega) with rfl | rfl | rfl | rfl | rfl
  ·exact index5_0 a b c d e w
  ·exact index5_1 a b c d e w
  ·exact index5_2 a b c d e w
  ·exact index5_3 a b c d e w
  ·exact index5_4 a b c d e w
theorem alloc5 (w : World) : (Instr.alloc 48 true (.tuple #[])).run Tryz.prog w = .ok (.pointer (some ⟨w.heap.size, 0, none⟩)) (w.alloc (.cells (cs5 [⟨#[]⟩, ⟨#[]⟩, ⟨#[]⟩, ⟨#[]⟩, ⟨#[]⟩]) 48 (0, 0))) := by kernel_rfl
theorem cs5_at {l : List ByteArray} (h : l.length = 5) (j : Nat) (hj : j < 5) : (cs5 l)[j]? = some (.string (wd l j)) := by
 unfold cs5 wd
 simp [List.getD, h, hj]
abbrev e5 : Array Value := #[.string ⟨#[]⟩, .string ⟨#[]⟩, .string ⟨#[]⟩, .string ⟨#[]⟩, .string ⟨#[]⟩]
theorem cs5_set {l : List ByteArray} (j : Nat) (x : ByteArray) : (cs5 l).setIfInBounds j (.string x) = cs5 (l.set j x) := by
 unfold cs5
 simp [List.map_set]
theorem c_row {w : World} {g : Nat} {l : List ByteArray} {T : TypeId} (h : w.heap[g]? = some (.cells (cs5 l) T (0, 0))) (hl : l.length ≤ 9223372036854775807) : Kd.C Kd.string w (some ⟨g, 0, none⟩) l.length l :=
 ⟨rfl, hl, fun _ => ⟨⟨g, 0, none⟩, rfl, fun j p hp => ⟨[.string p], rfl, rfl, fun i u hu => by
  cases i with
  | succ i => cases hu
  | zero =>
   have hj := (List.getElem?_eq_some_iff.1 hp)
   obtain rfl : u = .string p := by simpa using hu.symm
   have e : (⟨g, 0, none⟩ : Addr).add (j * Kd.string.sz + 0) = ⟨g, j, none⟩ := by
    have : Kd.string.sz = 1 := rfl
    rw [this]
    cases j with
    | zero => rfl
    | succ j => simp [Addr.add]
   rw [e, cell_of_row w g j (cs5 l) T (0, 0) h]
   unfold cs5
   simp [hp]⟩⟩⟩
theorem fits5_any (l : List ByteArray) (h : l.length = 5) (w : World) :
  Calls Tryz.prog 19 #[.agg (cs5 l)] w fun e w' => ∃ b, e = .returned (.bool b) ∧ (b = true → ∀ j, j < 5 → (wd l j).size ≤ 2147483647) ∧ Below w.heap.size w w' := by
 have hix := fun j hj w' => index5 l h j hj w'
 have HR := Lib.hid (show (w.alloc (.cells (cs5 l) 48 (0, 0))).heap[w.heap.size]? = some (.cells (cs5 l) 48 (0, 0)) from heap_alloc_new w _)
 go_enter Tryz.func19, Tryz.ntmps19
 go_wp2_with (refine wpList_load_rowG (by rfl) 48 _ rfl w.heap.size rfl _ _ _ _ HR.out Tryz.underlying48 rfl (by rw [size5, cs5_size h]) ?_)
 go_loopw [6] (fun v6 wr => ∃ k : Nat, k ≤ 5 ∧ v6 = .int .i64 k ∧ Hid (∀ j, j < k → (wd l j).size ≤ 2147483647) ∧ Below w.heap.size w wr) (fun v6 _ => 5 - (intOf v6).toNat)
 case atStart => exact ⟨0, by omega, rfl, Lib.hid (fun j hj => by omega), (Below.refl _ _).alloc (Nat.le_refl _) _⟩
 case round =>
  obtain ⟨k, hk, rfl, HA, hbr⟩ := hrel
  by_cases hk5 : k < 5
  ·have hlt : decide ((k : Int) < 5) = true := decide_eq_true (by omega)
   have hi := fun w' => hix k hk5 w'
   by_cases hs : 2147483647 < (wd l k).size
   ·have hd : decide ((2147483647 : Int) < (wd l k).size) = true := decide_eq_true (by omega)
    go_wp2_with fail
    go_ret
    exact ⟨false, rfl, (fun h => by cases h), hbr⟩
   ·have hd : decide ((2147483647 : Int) < (wd l k).size) = false := decide_eq_false (by omega)
    go_wp2_with fail
    go_roundw
    case rel =>
     refine ⟨k + 1, by omega, by go_num, Lib.hid fun j hj => ?_, hbr⟩
     by_cases hjk : j < k
     ·exact HA.out j hjk
     ·obtain rfl : j = k := by omega
      omega
    case measure => simp [intOf]; omega
  ·obtain rfl : k = 5 := by omega
   go_wp2_with fail
   go_ret
   exact ⟨true, rfl, fun _ => HA.out, hbr⟩
theorem mark_any (b : Bool) (w : World) : Calls Tryz.prog 24 #[.bool b] w fun e w' => e = .returned (.string (mk b)) ∧ w' = w := by
 cases b
 ·go_enter Tryz.func24, Tryz.ntmps24
  go_wp2_with fail
  go_ret
  exact ⟨rfl, rfl⟩
 ·go_enter Tryz.func24, Tryz.ntmps24
  go_wp2_with fail
  go_ret
  exact ⟨rfl, rfl⟩
theorem before_any (a b : Int) (w : World) : Calls Tryz.prog 68 #[.agg #[.int .i64 a, .int .i64 0], .agg #[.int .i64 b, .int .i64 0]] w fun e w' => e = .returned (.bool (decide (a < b))) ∧ Below w.heap.size w w' := by
 by_cases h : a < b
 ·have d1 : decide (a < b) = true := decide_eq_true h
  rw [d1]
  go_enter Tryz.func68, Tryz.ntmps68
  go_wp2_with fail
  go_ret
  exact ⟨rfl, by go_grown⟩
 ·have d1 : decide (a < b) = false := decide_eq_false h
  rw [d1]
  by_cases e : a = b
  ·subst e
   have d2 : (a == a) = true := by simp
   have d3 : decide ((0 : Int) < 0) = false := by decide
   go_enter Tryz.func68, Tryz.ntmps68
   go_wp2_with fail
   go_ret
   exact ⟨rfl, by go_grown⟩
  ·have d2 : (a == b) = false := by simpa using e
   go_enter Tryz.func68, Tryz.ntmps68
   go_wp2_with fail
   go_ret
   exact ⟨rfl, by go_grown⟩
theorem results_instE {fn : Func} {p u : Tmp} (h : fn.results = #[.cell p 50, .tmp u]) (tmps : Array Value) (w : World) (g : Nat) (cs : Array Value) (h2 : cs.size = 2)
  (hp : tmps.getD p undef = .pointer (some ⟨g, 0, none⟩)) (hs : w.heap[g]? = some (.cells cs 50 (0, 0))) :
  (results fn tmps).run Tryz.prog w = .ok (.tuple #[.agg cs, tmps.getD u undef]) w := by
 rw [results_cell_tmp h, hp]
 simp only [asAddr, Sem.run_pure, Result.andThen_ok, run_loadVar_row w g _ _ _ _ _ hs Tryz.underlying50 rfl (by rw [h2]; kernel_rfl)]
set_option maxRecDepth 100000 in
set_option maxHeartbeats 2000000 in
theorem earlier_go (A B : Array Value) (i1 i2 lt : Bool) (hA : A.size = 2) (hB : B.size = 2) (hA1 : A.all (·.oneCell') = true) (hB1 : B.all (·.oneCell') = true)
  (hlt : i1 = true → i2 = true → ∀ w' : World, Calls Tryz.prog 68 #[.agg B, .agg A] w' fun e w2 => e = .returned (.bool lt) ∧ Below w'.heap.size w' w2) (w : World) :
  Calls Tryz.prog 29 #[.agg A, .bool i1, .agg B, .bool i2] w fun e w' => e = .returned (.tuple #[.agg (if !i1 || (i2 && lt) then B else A), .bool (if !i1 || (i2 && lt) then i2 else i1)]) ∧ Below w.heap.size w w' := by
 have hz : (Tryz.prog.info? 50).map (·.size) = some 2 := by kernel_rfl
 have hzA : (Tryz.prog.info? 50).map (·.size) = some A.size := by rw [hA]; exact hz
 have hzB : (Tryz.prog.info? 50).map (·.size) = some B.size := by rw [hB]; exact hz
 have hal := run_alloc_inst
 have hi : instZ.size = 2 := rfl
 have hiA : instZ.size = A.size := by rw [hA]; rfl
 have hiB : instZ.size = B.size := by rw [hB]; rfl
 have HLT := Lib.hid hlt
 clear hlt
 go_enter Tryz.func29, Tryz.ntmps29
 go_upto_region 1 with fail
 generalize hW : World.alloc (World.alloc (World.alloc w _) _) _ = wa
 have HA := Lib.hid (show wa.heap[w.heap.size]? = some (.cells A 50 (0, 0)) by
  rw [← hW, Below.heap_alloc _ _ _ (by simp; try omega), Below.heap_alloc _ _ _ (by simp)]
  exact heap_alloc_new w _)
 have HB := Lib.hid (show wa.heap[w.heap.size + 1]? = some (.cells B 50 (0, 0)) by
  rw [← hW, Below.heap_alloc _ _ _ (by simp)]
  exact heap_two w _ _)
 have HR := Lib.hid (show wa.heap[w.heap.size + 1 + 1]? = some (.cells instZ 50 (0, 0)) by
  rw [← hW]
  have := heap_two (w.alloc (.cells A 50)) (.cells B 50) (.cells instZ 50)
  rw [show (w.alloc (.cells A 50)).heap.size = w.heap.size + 1 by simp] at this
  exact this)
 have hbw : Below w.heap.size w wa := by
  rw [← hW]
  exact (((Below.refl _ _).alloc (Nat.le_refl _) _).alloc (by simp) _).alloc (by simp only [World.alloc]; simp; try omega) _
 clear hW
 cases i1 with
 | false =>
  go_wp2_with (first
   | (refine wpList_load_rowG (by rfl) 50 _ rfl (w.heap.size + 1) rfl _ _ _ _ HB.out Tryz.underlying50 rfl hzB ?_)
   | (refine wpList_store_row rfl 50 _ _ rfl (w.heap.size + 1 + 1) B rfl rfl 50 _ HR.out hzB hiB hB1 ?_))
  refine bodyPost_ret (v := .tuple #[.agg B, .bool i2]) ?_ rfl ⟨rfl, below_setRow hbw (by omega) _⟩
  exact results_instE (fn := Tryz.f29) (p := 8) (u := 9) rfl _ _ (w.heap.size + 1 + 1) _ hB rfl (setRow_heap _ _ _ _ _ _ HR.out)
 | true =>
  cases i2 with
  | false =>
   go_wp2_with (first
    | (refine wpList_load_rowG (by rfl) 50 _ rfl w.heap.size rfl _ _ _ _ HA.out Tryz.underlying50 rfl hzA ?_)
    | (refine wpList_store_row rfl 50 _ _ rfl (w.heap.size + 1 + 1) A rfl rfl 50 _ HR.out hzA hiA hA1 ?_))
   refine bodyPost_ret (v := .tuple #[.agg A, .bool true]) ?_ rfl ⟨rfl, below_setRow hbw (by omega) _⟩
   exact results_instE (fn := Tryz.f29) (p := 8) (u := 9) rfl _ _ (w.heap.size + 1 + 1) _ hA rfl (setRow_heap _ _ _ _ _ _ HR.out)
  | true =>
   have HC := Lib.hid (HLT.out rfl rfl)
   go_wp2_with (first
    | (refine wpList_load_rowG (by rfl) 50 _ rfl w.heap.size rfl _ _ _ _ HA.out Tryz.underlying50 rfl hzA ?_)
    | (refine wpList_load_rowG (by rfl) 50 _ rfl (w.heap.size + 1) rfl _ _ _ _ HB.out Tryz.underlying50 rfl hzB ?_))
   refine (HC.out _).mono ?_
   rintro e w1 ⟨rfl, hb1⟩
   have HA1 := Lib.hid (row_keep HA.out hb1)
   have HB1 := Lib.hid (row_keep HB.out hb1)
   have HR1 := Lib.hid (row_keep HR.out hb1)
   have hbw1 := below_of_le hbw hb1
   clear hb1 HA HB HR hbw
   cases lt with
   | true =>
    go_wp2_with (first
     | (refine wpList_load_rowG (by rfl) 50 _ rfl (w.heap.size + 1) rfl _ _ _ _ HB1.out Tryz.underlying50 rfl hzB ?_)
     | (refine wpList_store_row rfl 50 _ _ rfl (w.heap.size + 1 + 1) B rfl rfl 50 _ HR1.out hzB hiB hB1 ?_))
    refine bodyPost_ret (v := .tuple #[.agg B, .bool true]) ?_ rfl ⟨rfl, below_setRow hbw1 (by omega) _⟩
    exact results_instE (fn := Tryz.f29) (p := 8) (u := 9) rfl _ _ (w.heap.size + 1 + 1) _ hB rfl (setRow_heap _ _ _ _ _ _ HR1.out)
   | false =>
    go_wp2_with (first
     | (refine wpList_load_rowG (by rfl) 50 _ rfl w.heap.size rfl _ _ _ _ HA1.out Tryz.underlying50 rfl hzA ?_)
     | (refine wpList_store_row rfl 50 _ _ rfl (w.heap.size + 1 + 1) A rfl rfl 50 _ HR1.out hzA hiA hA1 ?_))
    refine bodyPost_ret (v := .tuple #[.agg A, .bool true]) ?_ rfl ⟨rfl, below_setRow hbw1 (by omega) _⟩
    exact results_instE (fn := Tryz.f29) (p := 8) (u := 9) rfl _ _ (w.heap.size + 1 + 1) _ hA rfl (setRow_heap _ _ _ _ _ _ HR1.out)
theorem earlier_any (r1 r2 : Option Int) (w : World) : Calls Tryz.prog 29 #[.agg (ansI 0 r1), .bool r1.isSome, .agg (ansI 0 r2), .bool r2.isSome] w fun e w' => e = .returned (.tuple #[.agg (ansI 0 (minO r1 r2)), .bool (minO r1 r2).isSome]) ∧ Below w.heap.size w w' := by
 cases r1 with
 | none => exact earlier_go _ _ false r2.isSome false (ansI_size ..) (ansI_size ..) (ansI_one ..) (ansI_one ..) (fun h => by cases h) w
 | some a =>
  cases r2 with
  | none => exact earlier_go _ _ true false false (ansI_size ..) (ansI_size ..) (ansI_one ..) (ansI_one ..) (fun _ h => by cases h) w
  | some b =>
   have h1 := earlier_go (ansI 0 (some a)) (ansI 0 (some b)) true true (decide (b - 0 < a - 0)) (ansI_size ..) (ansI_size ..) (ansI_one ..) (ansI_one ..) (fun _ _ w' => before_any (b - 0) (a - 0) w') w
   rw [show minO (some a) (some b) = if b < a then some b else some a from rfl]
   by_cases h : b < a
   ·rw [if_pos h]
    rw [decide_eq_true (by omega : b - 0 < a - 0)] at h1
    exact h1
   ·rw [if_neg h]
    rw [decide_eq_false (by omega : ¬ b - 0 < a - 0)] at h1
    exact h1
theorem eqInstE (d : Nat) (w : World) (x0 y0 x1 y1 : Int) :
  (Op.equalIn (d + 2) 50 (.agg #[.int .i64 x0, .int .i64 x1]) (.agg #[.int .i64 y0, .int .i64 y1])).run Tryz.prog w = .ok (x0 == y0 && (x1 == y1)) w := by
 refine eqA_of Tryz.underlying50 (by kernel_rfl) ?_
 refine eqf_cons (by rfl) (by go_simp; rfl) (by go_simp; rfl) (by go_simp) ?_
 exact eqf_last (by rfl) (by go_simp; rfl) (by go_simp; rfl) (by go_simp)
theorem eqAns (d : Nat) (w : World) (r : Option Int) : (Op.equalIn (d + 2) 50 (.agg (ansI 0 r)) (.agg (ansI 0 r))).run Tryz.prog w = .ok true w := by
 cases r with
 | none => show (Op.equalIn (d + 2) 50 (.agg #[.int .i64 0, .int .i64 0]) (.agg #[.int .i64 0, .int .i64 0])).run Tryz.prog w = _; rw [eqInstE]; simp
 | some L => show (Op.equalIn (d + 2) 50 (.agg #[.int .i64 (L - 0), .int .i64 0]) (.agg #[.int .i64 (L - 0), .int .i64 0])).run Tryz.prog w = _; rw [eqInstE]; simp
attribute [local go_sem high] eqAns
theorem instSizeE : (Tryz.prog.info? 50).map (·.size) = some 2 := by kernel_rfl
theorem run_alloc_Se (w : World) : (Instr.alloc 26 true (.tuple #[])).run Tryz.prog w = .ok (.pointer (some ⟨w.heap.size, 0, none⟩)) (w.alloc (.cells noSched 26 (0, 0))) := by kernel_rfl
set_option maxRecDepth 100000 in
set_option maxHeartbeats 8000000 in
theorem lawEither_any (l : List ByteArray) (h5 : l.length = 5) (sec nano : Int) (m0 m1 : Bool) (w : World) (hg : G w) :
  Calls Tryz.prog 5 #[.agg (cs5 l), .agg #[.int .i64 sec, .int .i64 nano], .agg #[.bool m0, .bool m1]] w fun e w' => e = .returned (.bool true) ∧ Below w.heap.size w w' := by
 have HFI := Lib.hid (fun w' => fits5_any l h5 w')
 have HGD := Lib.hid (fun w' => good_any sec nano w')
 have HG := Lib.hid (fun w' (h : Below w.heap.size w w') => hg.below h)
 have hix := fun j hj w' => index5 l h5 j hj w'
 have H5 := Lib.hid h5
 clear hg h5
 have hal := run_alloc_inst
 have hal2 := run_alloc_Se
 have hal3 := run_alloc_set
 have hal5 := alloc5
 go_enter Tryz.func5, Tryz.ntmps5
 go_upto_region 1 with fail
 generalize hW : World.alloc (World.alloc (World.alloc w _) _) _ = wa
 have HL0 := Lib.hid (show wa.heap[w.heap.size]? = some (.cells (cs5 l) 48 (0, 0)) by
  rw [← hW, Below.heap_alloc _ _ _ (by simp; try omega), Below.heap_alloc _ _ _ (by simp)]
  exact heap_alloc_new w _)
 have HT0 := Lib.hid (show wa.heap[w.heap.size + 1]? = some (.cells #[.int .i64 sec, .int .i64 nano] 50 (0, 0)) by
  rw [← hW, Below.heap_alloc _ _ _ (by simp)]
  exact heap_two w _ _)
 have HM0 := Lib.hid (show wa.heap[w.heap.size + 1 + 1]? = some (.cells #[.bool m0, .bool m1] 51 (0, 0)) by
  rw [← hW]
  have := heap_two (w.alloc (.cells (cs5 l) 48)) (.cells #[.int .i64 sec, .int .i64 nano] 50) (.cells #[.bool m0, .bool m1] 51)
  rw [show (w.alloc (.cells (cs5 l) 48)).heap.size = w.heap.size + 1 by simp] at this
  exact this)
 have hB : Below w.heap.size w wa := by
  rw [← hW]
  exact (((Below.refl _ _).alloc (Nat.le_refl _) _).alloc (by simp) _).alloc (by simp only [World.alloc]; simp; try omega) _
 clear hW
 go_wp2_with (refine wpList_load_rowG (by rfl) 48 _ rfl w.heap.size rfl _ _ _ _ HL0.out Tryz.underlying48 rfl (by rw [size5, cs5_size H5.out]) ?_)
 refine (HFI.out _).mono ?_
 rintro e w1 ⟨bf, rfl, hfit, hb1⟩
 have HL1 := Lib.hid (row_keep HL0.out hb1)
 have HT1 := Lib.hid (row_keep HT0.out hb1)
 have HM1 := Lib.hid (row_keep HM0.out hb1)
 have hB1 := below_of_le hB hb1
 have HFIT := Lib.hid hfit
 clear hb1 HL0 HT0 HM0 hB HFI hfit
 try dsimp only
 cases bf with
 | false =>
  go_wp2_with fail
  go_ret
  exact ⟨rfl, hB1⟩
 | true =>
  have HFT := Lib.hid (HFIT.out rfl)
  clear HFIT
  go_wp2_with (refine wpList_load_rowG (by rfl) 50 _ rfl (w.heap.size + 1) rfl _ _ _ _ HT1.out Tryz.underlying50 rfl instSizeE ?_)
  refine (HGD.out _).mono ?_
  rintro e w2 ⟨rfl, hb2⟩
  have HL2 := Lib.hid (row_keep HL1.out hb2)
  have HT2 := Lib.hid (row_keep HT1.out hb2)
  have HM2 := Lib.hid (row_keep HM1.out hb2)
  have hB2 := below_of_le hB1 hb2
  clear hb2 HL1 HT1 HM1 hB1 HGD
  try dsimp only
  cases hgd : goodB sec nano with
  | false =>
   go_wp2_with fail
   go_ret
   exact ⟨rfl, hB2⟩
  | true =>
   have HGO := Lib.hid hgd
   clear hgd
   go_wp2_with (refine wpList_load_rowG (by rfl) 48 _ rfl w.heap.size rfl _ _ _ _ HL2.out Tryz.underlying48 rfl (by rw [size5, cs5_size H5.out]) ?_)
   go_loopw [35] (fun v35 wr => ∃ k : Nat, k ≤ 5 ∧ v35 = .int .i64 k ∧ Hid (∀ j, j < k → OkW l j) ∧ Hid (wr.heap[w.heap.size]? = some (.cells (cs5 l) 48 (0, 0))) ∧ Hid (wr.heap[w.heap.size + 1]? = some (.cells #[.int .i64 sec, .int .i64 nano] 50 (0, 0))) ∧ Hid (wr.heap[w.heap.size + 1 + 1]? = some (.cells #[.bool m0, .bool m1] 51 (0, 0))) ∧ Below w.heap.size w wr) (fun v35 _ => 5 - (intOf v35).toNat)
   case atStart => exact ⟨0, by omega, rfl, Lib.hid (fun j hj => by omega), HL2, HT2, HM2, hB2⟩
   case round =>
    clear HL2 HT2 HM2 hB2
    obtain ⟨k, hk, rfl, HOK, HL, HT, HM, hbr⟩ := hrel
    by_cases hk5 : k < 5
    ·have hlt : decide ((k : Int) < 5) = true := decide_eq_true (by omega)
     have hi := fun w' => hix k hk5 w'
     have hw1 : wrap64 ((k : Int) + 1) = ((k + 1 : Nat) : Int) := by unfold wrap64; omega
     have HBO := Lib.hid (fun w' => boundsOf_any (k + 1) w')
     have hsz := HFT.out k hk5
     have HCF := Lib.hid (fun w' => cronField2_any (valA (k + 1)) ((k + 1 : Nat) : Int) (valA_reads (k + 1) (by omega)) (loK (k + 1)) (hiK (k + 1)) (wd l k) (by omega) (lo_hi (k + 1)).1 (lo_hi (k + 1)).2 w')
     have HF2 := Lib.hid (fun b (h : fieldS2 (valA (k + 1)) (loK (k + 1)) (hiK (k + 1)) (wd l k).data.toList = some b) => fieldS2_ok h)
     have HFL := Lib.hid (fun b (hk0 : k = 0) (h : fieldS2 (valA (k + 1)) (loK (k + 1)) (hiK (k + 1)) (wd l k).data.toList = some b) => fieldS2_low (by omega) (by omega) h)
     obtain ⟨kw, lw, hwf, hwl, hwx, hwa⟩ := words_ex (wd l k) (by omega)
     have HW := Lib.hid (fun w' => spec_CronWords.calls kw (wd l k) lw w' hwf)
     have HWA := Lib.hid hwa
     clear hwf hwx hwa
     go_wp2_with fail
     refine (HBO.out _).mono ?_
     rintro e w3 ⟨rfl, hb3⟩
     have HL3 := Lib.hid (row_keep HL.out hb3)
     have HT3 := Lib.hid (row_keep HT.out hb3)
     have HM3 := Lib.hid (row_keep HM.out hb3)
     have hB3 := below_of_le hbr hb3
     clear hb3 HL HT HM hbr HBO
     try dsimp only
     go_wp2_with fail
     refine (HCF.out _).mono ?_
     rintro e w4 ⟨star, p, v, rfl, hI, hb4⟩
     have HL4 := Lib.hid (row_keep HL3.out hb4)
     have HT4 := Lib.hid (row_keep HT3.out hb4)
     have HM4 := Lib.hid (row_keep HM3.out hb4)
     have hB4 := below_of_le hB3 hb4
     have HI := Lib.hid hI
     clear hb4 HL3 HT3 HM3 hB3 HCF hI
     try dsimp only
     go_upto_region 9 with (go_big_may; refine wpList_store_set rfl _ _ rfl w4.heap.size star p rfl rfl _ _ (isSet_lit w4) ?_)
     try dsimp only [Act.put]
     generalize hY : World.setRow _ _ _ = w5
     have HS5 : Hid (IsSet w5 w4.heap.size star p) := Lib.hid (by rw [← hY]; exact (isSet_lit w4).store star p)
     have hb5 : Below w4.heap.size w4 w5 := by rw [← hY]; exact below_setRow ((Below.refl _ _).alloc (Nat.le_refl _) _) (Nat.le_refl _) _
     clear hY
     have HL5 := Lib.hid (row_keep HL4.out hb5)
     have HT5 := Lib.hid (row_keep HT4.out hb5)
     have HM5 := Lib.hid (row_keep HM4.out hb5)
     have hB5 := below_of_le hB4 hb5
     clear hb5 HL4 HT4 HM4 hB4
     generalize w4.heap.size = gs at *
     by_cases h256 : 256 < (wd l k).size
     ·have d1 : decide ((256 : Int) < (wd l k).size) = true := decide_eq_true (by omega)
      go_wp2_with fail
      go_ret
      exact ⟨rfl, hB5⟩
     ·have d1 : decide ((256 : Int) < (wd l k).size) = false := decide_eq_false (by omega)
      go_wp2_with fail
      refine (HW.out _).mono ?_
      rintro e w6 ⟨vw, rfl, hR, hb6⟩
      obtain ⟨A, c, rfl, hc, hC⟩ := Kd.R_reads hR
      have HL6 := Lib.hid (row_keep HL5.out hb6)
      have HT6 := Lib.hid (row_keep HT5.out hb6)
      have HM6 := Lib.hid (row_keep HM5.out hb6)
      have HS6 := Lib.hid (HS5.out.below hb6)
      have hB6 := below_of_le hB5 hb6
      clear hb6 HL5 HT5 HM5 hB5 HS5 hR hC HW
      have hstar := HS6.out.cell0
      try dsimp only
      by_cases hl1 : lw.length = 1
      ·have d2 : ((lw.length : Int) != 1) = false := by rw [hl1]; rfl
       by_cases hv : v = 1
       ·subst hv
        have hfine := HI.out.fine rfl
        have hF := HF2.out _ hfine
        have hFL := fun hk0 => HFL.out _ hk0 hfine
        by_cases hks : (k = 2 ∨ k = 4) ∧ star = true
        ·obtain ⟨hk24, rfl⟩ := hks
         rcases hk24 with rfl | rfl
         ·go_wp2_with fail
          go_ret
          exact ⟨rfl, hB6⟩
         ·go_wp2_with fail
          go_ret
          exact ⟨rfl, hB6⟩
        ·have HNEW : Hid (OkW l k) := Lib.hid (by
          have hA : Ascii (wd l k) := fun c hc => (hF.2 c hc).1
          have hlw := HWA.out hA
          refine ⟨by omega, ⟨fun h0 => ?_, fun c hc => (hF.2 c hc).2⟩, hA, hFL, _, hF.1, ?_, fun h24 => ?_⟩
          ·have h1 := fieldsZ_len (wd l k)
           rw [← hlw, hl1, size_list, h0] at h1
           simp at h1
          ·exact setBits_lt star p
          ·rw [setBits_star]
           cases star with
           | false => rfl
           | true => exact absurd ⟨h24, rfl⟩ hks)
         have hgo : ∀ j, j < k + 1 → OkW l j := fun j hj => by
          by_cases hjk : j < k
          ·exact HOK.out j hjk
          ·obtain rfl : j = k := by omega
           exact HNEW.out
         have HGO2 := Lib.hid hgo
         clear hF hfine hFL HI HF2 HFL hgo HNEW HOK
         by_cases hk2 : k = 2
         ·subst hk2
          obtain rfl : star = false := by
           cases star with
           | false => rfl
           | true => exact absurd ⟨.inl rfl, rfl⟩ hks
          go_wp2_with fail
          go_roundw
          case rel => exact ⟨3, by omega, rfl, HGO2, HL6, HT6, HM6, hB6⟩
          case measure => simp [intOf]
         ·by_cases hk4 : k = 4
          ·subst hk4
           obtain rfl : star = false := by
            cases star with
            | false => rfl
            | true => exact absurd ⟨.inr rfl, rfl⟩ hks
           go_wp2_with fail
           go_roundw
           case rel => exact ⟨5, by omega, rfl, HGO2, HL6, HT6, HM6, hB6⟩
           case measure => simp [intOf]
          ·have e2 : ((k : Int) == 2) = false := by rw [beq_eq_false_iff_ne]; omega
           have e4 : ((k : Int) == 4) = false := by rw [beq_eq_false_iff_ne]; omega
           go_wp2_with fail
           go_roundw
           case rel => exact ⟨k + 1, by omega, by first | rfl | (congr 1), HGO2, HL6, HT6, HM6, hB6⟩
           case measure => simp [intOf]; omega
       ·have d3 : (v != 1) = true := by simpa using hv
        go_wp2_with fail
        go_ret
        exact ⟨rfl, hB6⟩
      ·have d2 : ((lw.length : Int) != 1) = true := by
        have : (lw.length : Int) ≠ 1 := by omega
        simpa using this
       go_wp2_with fail
       go_ret
       exact ⟨rfl, hB6⟩
    ·obtain rfl : k = 5 := by omega
     have HOK5 := Lib.hid (show ∀ j, j < 5 → OkW l j from HOK.out)
     clear HOK HFT
     have HST := Lib.hid (fun b w' => mark_any b w')
     have hz5 : (Tryz.prog.info? 48).map (·.size) = some (cs5 l).size := by rw [size5, cs5_size H5.out]
     have hze : e5.size = (cs5 l).size := by rw [cs5_size H5.out]; rfl
     have hA : ((wr.alloc (.cells e5 48)).alloc (.cells e5 48)).heap[wr.heap.size]? = some (.cells e5 48 (0, 0)) := by
      rw [Below.heap_alloc _ _ _ (by simp)]
      exact heap_alloc_new wr _
     have hC : ∀ cs, (((wr.alloc (.cells e5 48)).alloc (.cells e5 48)).setRow wr.heap.size cs).heap[wr.heap.size + 1]? = some (.cells e5 48 (0, 0)) := fun cs =>
      (setRow_other _ _ _ _ (by omega)).trans (heap_two wr _ _)
     have hone := cs5_one l
     go_upto_region 13 with fail
     go_upto_region 14 with (go_big_may; first
      | (refine wpList_load_row rfl 48 _ rfl w.heap.size rfl _ _ _ _ HL.out Tryz.underlying48 rfl hz5 ?_)
      | (refine wpList_store_row rfl 48 _ _ rfl wr.heap.size (cs5 l) rfl rfl 48 _ hA hz5 hze hone ?_)
      | (refine wpList_store_row rfl 48 _ _ rfl (wr.heap.size + 1) (cs5 l) rfl rfl 48 _ (hC _) hz5 hze hone ?_))
     try dsimp only [Act.put]
     generalize hY : World.setRow (World.setRow ((wr.alloc (.cells e5 48)).alloc (.cells e5 48)) wr.heap.size (cs5 l)) (wr.heap.size + 1) (cs5 l) = wo
     have hlr := row_lt HL.out
     have hltr := row_lt HT.out
     have hlmr := row_lt HM.out
     have HB0 := Lib.hid (show wo.heap[wr.heap.size + 1]? = some (.cells (cs5 l) 48 (0, 0)) by rw [← hY]; exact setRow_heap _ _ _ _ _ _ (hC (cs5 l)))
     have HA0 := Lib.hid (show wo.heap[wr.heap.size]? = some (.cells (cs5 l) 48 (0, 0)) by rw [← hY]; exact (setRow_other _ _ _ _ (by omega)).trans (setRow_heap _ _ _ _ _ _ hA))
     have hbo : Below wr.heap.size wr wo := by rw [← hY]; exact below_setRow (below_setRow (((Below.refl _ _).alloc (Nat.le_refl _) _).alloc (by simp) _) (Nat.le_refl _) _) (by omega) _
     have HM3 := Lib.hid (row_keep HM.out hbo)
     have HL3 := Lib.hid (row_keep HL.out hbo)
     have HT3 := Lib.hid (row_keep HT.out hbo)
     have hB3 := below_of_le hbr hbo
     clear hY hA hC hz5 hze hone hbo HM HL HT hbr
     obtain ⟨g12, hg12⟩ : ∃ g, g = wr.heap.size := ⟨_, rfl⟩
     have hw3 : w.heap.size + 1 + 1 < g12 := by omega
     rw [← hg12] at HA0 HB0 ⊢
     clear hlr hltr hlmr hg12
     obtain ⟨g13, hg13⟩ : ∃ g, g = g12 + 1 := ⟨_, rfl⟩
     rw [← hg13] at HB0 ⊢
     have hlt13 : g12 < g13 := by omega
     have hne13 : ¬ g12 = g13 := by omega
     clear hg13
     have hr0 := HA0.out
     have hr1 := HB0.out
     have hr2 := HM3.out
     have c13 : wo.cell? ⟨g13, 2, none⟩ = some (.string (wd l 2)) := (cell_of_row _ _ _ _ _ _ hr1).trans (cs5_at H5.out 2 (by omega))
     have f13 : wo.frozen? ⟨g13, 2, none⟩ = false := frozen_of_row _ _ _ _ _ hr1
     have c12 : ∀ v, (wo.setCell ⟨g13, 2, none⟩ v).cell? ⟨g12, 4, none⟩ = some (.string (wd l 4)) := fun v => (World.cell?_of_block (heap_setCell_other _ _ _ _ (by show g12 ≠ g13; omega))).trans ((cell_of_row _ _ _ _ _ _ hr0).trans (cs5_at H5.out 4 (by omega)))
     have f12 : ∀ v, (wo.setCell ⟨g13, 2, none⟩ v).frozen? ⟨g12, 4, none⟩ = false := fun v => frozen_of_row _ _ _ _ _ ((heap_setCell_other _ _ _ _ (by show g12 ≠ g13; omega)).trans hr0)
     refine start_ (n := 12) (S := fun w' => w'.heap[g12]? = some (.cells (cs5 l) 48 (0, 0)) ∧ w'.heap[g13]? = some (.cells (cs5 l) 48 (0, 0)) ∧ w'.heap[w.heap.size + 1 + 1]? = some (.cells #[.bool m0, .bool m1] 51 (0, 0)) ∧ Below wo.heap.size wo w') (ds := [9, 11]) #[false, false, false, false, false, false, false, false, false, false, false, false] (by kernel_rfl) rfl rfl ⟨hr0, hr1, hr2, (Below.refl _ _).drew⟩ (fun hHeld => ?_)
     refine pure_ (i := 0) (N := some 75) (v := ?_) (a' := ?_) #[true, false, false, false, false, false, false, false, false, false, false, false] rfl rfl (by kernel_rfl) (fun _ _ _ h => h) (Or.inl ⟨by rfl, ?_⟩) ?_ ?_
     rotate_left
     ·intro w'
      go_simp
      with_reducible rfl
     rotate_left
     ·simp only [Act.put, List.setIfInBounds_toArray, List.set_cons_zero, List.set_cons_succ, i64_w, i32_w]
      rfl
     refine pure_ (i := 1) (N := some 76) (v := ?_) (a' := ?_) #[true, true, false, false, false, false, false, false, false, false, false, false] rfl rfl (by kernel_rfl) (fun _ _ _ h => h) (Or.inl ⟨by rfl, ?_⟩) ?_ ?_
     rotate_left
     ·intro w'
      go_simp
      with_reducible rfl
     rotate_left
     ·simp only [Act.put, List.setIfInBounds_toArray, List.set_cons_zero, List.set_cons_succ, i64_w, i32_w]
      rfl
     refine pure_ (i := 4) (N := some 79) (v := ?_) (a' := ?_) #[true, true, false, false, true, false, false, false, false, false, false, false] rfl rfl (by kernel_rfl) (fun _ _ _ h => h) (Or.inl ⟨by rfl, ?_⟩) ?_ ?_
     rotate_left
     ·intro w'
      go_simp
      with_reducible rfl
     rotate_left
     ·simp only [Act.put, List.setIfInBounds_toArray, List.set_cons_zero, List.set_cons_succ, i64_w, i32_w]
      rfl
     refine pure_ (i := 5) (N := some 80) (v := ?_) (a' := ?_) #[true, true, false, false, true, true, false, false, false, false, false, false] rfl rfl (by kernel_rfl) (fun _ _ _ h => h) (Or.inl ⟨by rfl, ?_⟩) ?_ ?_
     rotate_left
     ·intro w'
      go_simp
      with_reducible rfl
     rotate_left
     ·simp only [Act.put, List.setIfInBounds_toArray, List.set_cons_zero, List.set_cons_succ, i64_w, i32_w]
      rfl
     refine take_ (i := 2) (N := some 77) (v := ?_) (a' := ?_) #[true, true, true, false, true, true, false, false, false, false, false, false] rfl rfl (by kernel_rfl) (fun _ _ _ h => h) (Or.inl ⟨by rfl, ?_⟩) hHeld ?_ ?_
     rotate_left
     ·rintro w' ⟨s0, s1, s2, s3⟩
      have c2 : w'.cell? ⟨w.heap.size + 1 + 1, 0, none⟩ = some (.bool m0) := cell_of_row _ _ _ _ _ _ s2
      go_simp
      with_reducible rfl
     rotate_left
     ·simp only [Act.put, List.setIfInBounds_toArray, List.set_cons_zero, List.set_cons_succ, i64_w, i32_w]
      rfl
     refine take_ (i := 6) (N := some 81) (v := ?_) (a' := ?_) #[true, true, true, false, true, true, true, false, false, false, false, false] rfl rfl (by kernel_rfl) (fun _ _ _ h => h) (Or.inl ⟨by rfl, ?_⟩) hHeld ?_ ?_
     rotate_left
     ·rintro w' ⟨s0, s1, s2, s3⟩
      have c2 : w'.cell? ⟨w.heap.size + 1 + 1, 1, none⟩ = some (.bool m1) := cell_of_row _ _ _ _ _ _ s2
      go_simp
      with_reducible rfl
     rotate_left
     ·simp only [Act.put, List.setIfInBounds_toArray, List.set_cons_zero, List.set_cons_succ, i64_w, i32_w]
      rfl
     refine one_ (i := 3) (N := some 78) #[true, true, true, true, true, true, true, false, false, false, false, false] rfl rfl (by kernel_rfl) (by decide) (fun K hK => ?_)
     refine goesV_ Tryz.func24 (by kernel_rfl) rfl #[.bool m0] #[] #[.bool m0] rfl (by rfl) (by rfl) rfl rfl (by simp only [List.map_toArray, List.map_cons, List.map_nil]; rfl) ?_
     with_reducible refine (HST.out m0 _).mono ?_
     rintro e w4 ⟨rfl, rfl⟩
     refine ⟨_, rfl, ?_⟩
     refine hK.out _ _ ⟨hHeld.1, hHeld.2.1, hHeld.2.2.1, hHeld.2.2.2⟩ (fun hHeld => ?_)
     clear hK K
     refine norm_ (a' := ?_) ?_ ?_
     rotate_left
     ·show Act.put _ (some 78) _ = _
      simp only [Act.put, List.setIfInBounds_toArray, List.set_cons_zero, List.set_cons_succ, i64_w, i32_w]
      rfl
     refine one_ (i := 7) (N := some 82) #[true, true, true, true, true, true, true, true, false, false, false, false] rfl rfl (by kernel_rfl) (by decide) (fun K hK => ?_)
     refine goesV_ Tryz.func24 (by kernel_rfl) rfl #[.bool m1] #[] #[.bool m1] rfl (by rfl) (by rfl) rfl rfl (by simp only [List.map_toArray, List.map_cons, List.map_nil]; rfl) ?_
     with_reducible refine (HST.out m1 _).mono ?_
     rintro e w4 ⟨rfl, rfl⟩
     refine ⟨_, rfl, ?_⟩
     refine hK.out _ _ ⟨hHeld.1, hHeld.2.1, hHeld.2.2.1, hHeld.2.2.2⟩ (fun hHeld => ?_)
     clear hK K
     refine norm_ (a' := ?_) ?_ ?_
     rotate_left
     ·show Act.put _ (some 82) _ = _
      simp only [Act.put, List.setIfInBounds_toArray, List.set_cons_zero, List.set_cons_succ, i64_w, i32_w]
      rfl
     refine pure_ (i := 8) (N := some 83) (v := ?_) (a' := ?_) #[true, true, true, true, true, true, true, true, true, false, false, false] rfl rfl (by kernel_rfl) (fun _ _ _ h => h) (Or.inl ⟨by rfl, ?_⟩) ?_ ?_
     rotate_left
     ·intro w'
      go_simp
      with_reducible rfl
     rotate_left
     ·simp only [Act.put, List.setIfInBounds_toArray, List.set_cons_zero, List.set_cons_succ, i64_w, i32_w]
      rfl
     refine last_ (i := 9) (N := none) #[true, true, true, true, true, true, true, true, true, true, false, false] rfl rfl (by kernel_rfl) (by decide) (fun K hK => ?_)
     refine skip_ (w1 := ?_) (by rfl) rfl ?_ ?_
     rotate_left
     ·go_simp
      rfl
     refine hK.out _ _ ?_
     clear hK K
     refine pure_ (i := 10) (N := some 84) (v := ?_) (a' := ?_) #[true, true, true, true, true, true, true, true, true, true, true, false] rfl rfl (by kernel_rfl) (fun _ _ _ h => h) (Or.inl ⟨by rfl, ?_⟩) ?_ ?_
     rotate_left
     ·intro w'
      go_simp
      with_reducible rfl
     rotate_left
     ·simp only [Act.put, List.setIfInBounds_toArray, List.set_cons_zero, List.set_cons_succ, i64_w, i32_w]
      rfl
     refine last_ (i := 11) (N := none) #[true, true, true, true, true, true, true, true, true, true, true, true] rfl rfl (by kernel_rfl) (by decide) (fun K hK => ?_)
     refine skip_ (w1 := ?_) (by rfl) rfl ?_ ?_
     rotate_left
     ·go_simp
      rfl
     refine hK.out _ _ ?_
     clear hK K
     refine done_ (by kernel_rfl) ?_
     clear c13 f13 c12 f12 hHeld
     generalize hY : World.drew (World.setCell (World.setCell wo ⟨g13, 2, none⟩ (.string (mk m0))) ⟨g12, 4, none⟩ (.string (mk m1))) = w5
     obtain ⟨lA, hlA⟩ : ∃ lA, lA = l.set 4 (mk m1) := ⟨_, rfl⟩
     obtain ⟨lB, hlB⟩ : ∃ lB, lB = l.set 2 (mk m0) := ⟨_, rfl⟩
     have HA5 := Lib.hid (show w5.heap[g12]? = some (.cells (cs5 lA) 48 (0, 0)) by
      rw [← hY, hlA, ← cs5_set]
      exact heap_setCell_same _ _ 4 _ _ _ ((heap_setCell_other _ _ _ _ (by show g12 ≠ g13; omega)).trans hr0))
     have HB5 := Lib.hid (show w5.heap[g13]? = some (.cells (cs5 lB) 48 (0, 0)) by
      rw [← hY, hlB, ← cs5_set]
      exact (heap_setCell_other _ _ _ _ (by show g13 ≠ g12; omega)).trans (heap_setCell_same _ _ 2 _ _ _ hr1))
     have HL5 := Lib.hid (show w5.heap[w.heap.size]? = some (.cells (cs5 l) 48 (0, 0)) by
      rw [← hY]
      exact (heap_setCell_other _ _ _ _ (by show w.heap.size ≠ g12; omega)).trans ((heap_setCell_other _ _ _ _ (by show w.heap.size ≠ g13; omega)).trans HL3.out))
     have HT5 := Lib.hid (show w5.heap[w.heap.size + 1]? = some (.cells #[.int .i64 sec, .int .i64 nano] 50 (0, 0)) by
      rw [← hY]
      exact (heap_setCell_other _ _ _ _ (by show w.heap.size + 1 ≠ g12; omega)).trans ((heap_setCell_other _ _ _ _ (by show w.heap.size + 1 ≠ g13; omega)).trans HT3.out))
     have hB5 : Below w.heap.size w w5 := by
      rw [← hY]
      exact ((hB3.setCell (p := ⟨g13, 2, none⟩) (by show w.heap.size ≤ g13; omega) _).setCell (p := ⟨g12, 4, none⟩) (by show w.heap.size ≤ g12; omega) _).drew
     clear hY hr0 hr1 hr2 HA0 HB0 HL3 HT3 HM3 hB3
     -- the three texts and their sets
     have hle := H5.out
     have hok := HOK5.out
     obtain ⟨x0, x1, x2, x3, x4, rfl⟩ : ∃ a b c d e, l = [a, b, c, d, e] := by
      match l, hle with
      | [a, b, c, d, e], _ => exact ⟨a, b, c, d, e, rfl⟩
     have k0 := hok 0 (by omega)
     have k1 := hok 1 (by omega)
     have k2 := hok 2 (by omega)
     have k3 := hok 3 (by omega)
     have k4 := hok 4 (by omega)
     obtain ⟨b1, e1, z1, -⟩ := k0.bits
     obtain ⟨b2, e2, z2, -⟩ := k1.bits
     obtain ⟨b3, e3, z3, y3⟩ := k2.bits
     obtain ⟨b4, e4, z4, -⟩ := k3.bits
     obtain ⟨b5, e5, z5, y5⟩ := k4.bits
     have hq : ∀ j, j < 5 → Word (wd [x0, x1, x2, x3, x4] j) ∧ Ascii (wd [x0, x1, x2, x3, x4] j) ∧ (wd [x0, x1, x2, x3, x4] j).size ≤ 256 := fun j hj => ⟨(hok j hj).word, (hok j hj).ascii, (hok j hj).size⟩
     have q0 := hq 0 (by omega)
     have q1 := hq 1 (by omega)
     have q2 := hq 2 (by omega)
     have q3 := hq 3 (by omega)
     have q4 := hq 4 (by omega)
     have qm0 := word_mk m0
     have qm1 := word_mk m1
     have hd63 : inB b3 63 = false := y3 (.inl rfl)
     have hw63 : inB b5 63 = false := y5 (.inr rfl)
     have HP1 := Lib.hid (fun w' hg' => five_any [x0, x1, x2, x3, mk m1] rfl (by
      intro x hx
      simp only [List.mem_cons, List.not_mem_nil, or_false] at hx
      rcases hx with rfl | rfl | rfl | rfl | rfl
      ·exact q0
      ·exact q1
      ·exact q2
      ·exact q3
      ·exact qm1) (k0.low rfl) e1 e2 e3 e4 (star_dow m1) w' hg')
     have HP2 := Lib.hid (fun w' hg' => five_any [x0, x1, mk m0, x3, x4] rfl (by
      intro x hx
      simp only [List.mem_cons, List.not_mem_nil, or_false] at hx
      rcases hx with rfl | rfl | rfl | rfl | rfl
      ·exact q0
      ·exact q1
      ·exact qm0
      ·exact q3
      ·exact q4) (k0.low rfl) e1 e2 (star_dom m0) e4 e5 w' hg')
     have HP0 := Lib.hid (fun w' hg' => five_any [x0, x1, x2, x3, x4] rfl (by
      intro x hx
      simp only [List.mem_cons, List.not_mem_nil, or_false] at hx
      rcases hx with rfl | rfl | rfl | rfl | rfl
      ·exact q0
      ·exact q1
      ·exact q2
      ·exact q3
      ·exact q4) (k0.low rfl) e1 e2 e3 e4 e5 w' hg')
     have hsz : ∀ l : List ByteArray, (∀ x ∈ l, x.size ≤ 256) → l.length = 5 → ∃ k, spec_CronJoin.f k l ⟨#[32]⟩ = some (ba (joinL l)) := fun l h h' => join_f l 256 h (by omega) (by omega)
     obtain ⟨kA, hjA⟩ := hsz lA (by
      rw [hlA]
      intro x hx
      simp only [List.set_cons_succ, List.set_cons_zero, List.mem_cons, List.not_mem_nil, or_false] at hx
      rcases hx with rfl | rfl | rfl | rfl | rfl
      ·exact q0.2.2
      ·exact q1.2.2
      ·exact q2.2.2
      ·exact q3.2.2
      ·exact qm1.2.2) (by rw [hlA]; rfl)
     obtain ⟨kB, hjB⟩ := hsz lB (by
      rw [hlB]
      intro x hx
      simp only [List.set_cons_succ, List.set_cons_zero, List.mem_cons, List.not_mem_nil, or_false] at hx
      rcases hx with rfl | rfl | rfl | rfl | rfl
      ·exact q0.2.2
      ·exact q1.2.2
      ·exact qm0.2.2
      ·exact q3.2.2
      ·exact q4.2.2) (by rw [hlB]; rfl)
     obtain ⟨kL, hjL⟩ := hsz [x0, x1, x2, x3, x4] (by
      intro x hx
      simp only [List.mem_cons, List.not_mem_nil, or_false] at hx
      rcases hx with rfl | rfl | rfl | rfl | rfl
      ·exact q0.2.2
      ·exact q1.2.2
      ·exact q2.2.2
      ·exact q3.2.2
      ·exact q4.2.2) rfl
     have HJA : Hid (∀ (w' : World) (g c : Nat), w'.heap[g]? = some (.cells (cs5 lA) 48 (0, 0)) → 5 ≤ c → Calls Tryz.prog 26 #[.slice (some ⟨g, 0, none⟩) 5 c, .string ⟨#[32]⟩] w' fun e w2 => e = .returned (.string (ba (joinL lA))) ∧ Below w'.heap.size w' w2) := Lib.hid (fun w' g c hrow hc => by
      have h5 : lA.length = 5 := by rw [hlA]; rfl
      have := spec_CronJoin.calls kA (some ⟨g, 0, none⟩) c lA ⟨#[32]⟩ _ w' (c_row hrow (by omega)) (by omega) hjA
      rw [h5] at this
      exact this.mono fun e w2 h => ⟨h.1, h.2.below⟩)
     have HJB : Hid (∀ (w' : World) (g c : Nat), w'.heap[g]? = some (.cells (cs5 lB) 48 (0, 0)) → 5 ≤ c → Calls Tryz.prog 26 #[.slice (some ⟨g, 0, none⟩) 5 c, .string ⟨#[32]⟩] w' fun e w2 => e = .returned (.string (ba (joinL lB))) ∧ Below w'.heap.size w' w2) := Lib.hid (fun w' g c hrow hc => by
      have h5 : lB.length = 5 := by rw [hlB]; rfl
      have := spec_CronJoin.calls kB (some ⟨g, 0, none⟩) c lB ⟨#[32]⟩ _ w' (c_row hrow (by omega)) (by omega) hjB
      rw [h5] at this
      exact this.mono fun e w2 h => ⟨h.1, h.2.below⟩)
     obtain ⟨ll, hll⟩ : ∃ ll, ll = [x0, x1, x2, x3, x4] := ⟨_, rfl⟩
     have HJL : Hid (∀ (w' : World) (g c : Nat), w'.heap[g]? = some (.cells (cs5 ll) 48 (0, 0)) → 5 ≤ c → Calls Tryz.prog 26 #[.slice (some ⟨g, 0, none⟩) 5 c, .string ⟨#[32]⟩] w' fun e w2 => e = .returned (.string (ba (joinL ll))) ∧ Below w'.heap.size w' w2) := Lib.hid (fun w' g c hrow hc => by
      have h5 : ll.length = 5 := by rw [hll]; rfl
      have := spec_CronJoin.calls kL (some ⟨g, 0, none⟩) c ll ⟨#[32]⟩ (ba (joinL ll)) w' (c_row hrow (by omega)) (by omega) (by rw [hll]; exact hjL)
      rw [h5] at this
      exact this.mono fun e w2 h => ⟨h.1, h.2.below⟩)
     rw [show [x0, x1, x2, x3, mk m1] = lA from hlA.symm] at HP1
     rw [show [x0, x1, mk m0, x3, x4] = lB from hlB.symm] at HP2
     rw [← hll] at HP0 HL5
     obtain ⟨S0, hS0⟩ : ∃ S0 : Sets, S0 = { sec := 1, min := b1, hour := b2, dom := b3, month := b4, dow := b5 } := ⟨_, rfl⟩
     have hok0 : S0.ok := by rw [hS0]; exact ⟨by show (1 : Nat) < _; omega, z1, z2, z3, z4, z5⟩
     have hok1 : (byDom S0).ok := by obtain ⟨a1, a2, a3, a4, a5, a6⟩ := hok0; exact ⟨a1, a2, a3, a4, a5, by show (9223372036854775935 : Nat) < _; omega⟩
     have hok2 : (byDow S0).ok := by obtain ⟨a1, a2, a3, a4, a5, a6⟩ := hok0; exact ⟨a1, a2, a3, by show (9223372041149743102 : Nat) < _; omega, a5, a6⟩
     obtain ⟨r1, hr1⟩ := least_exists (byDom S0) (sec + 1) (yearL (sec + 1) + 5)
     obtain ⟨r2, hr2⟩ := least_exists (byDow S0) (sec + 1) (yearL (sec + 1) + 5)
     have hr0 := least_either (S := S0) (by rw [hS0]; exact hd63) (by rw [hS0]; exact hw63) hr1 hr2
     obtain ⟨r0, hr0d⟩ : ∃ r0, r0 = minO r1 r2 := ⟨_, rfl⟩
     rw [← hr0d] at hr0
     obtain ⟨S1, hS1⟩ : ∃ S1, S1 = byDom S0 := ⟨_, rfl⟩
     obtain ⟨S2, hS2⟩ : ∃ S2, S2 = byDow S0 := ⟨_, rfl⟩
     rw [show ({ sec := 1, min := b1, hour := b2, dom := b3, month := b4, dow := allDow } : Sets) = S1 by rw [hS1, hS0]; rfl] at HP1
     rw [show ({ sec := 1, min := b1, hour := b2, dom := allDom, month := b4, dow := b5 } : Sets) = S2 by rw [hS2, hS0]; rfl] at HP2
     rw [← hS0] at HP0
     rw [← hS1] at hok1 hr1
     rw [← hS2] at hok2 hr2
     have HN1 := Lib.hid (fun w' => nextUtc_any 0 S1 hok1 sec nano HGO.out r1 hr1 w')
     have HN2 := Lib.hid (fun w' => nextUtc_any 0 S2 hok2 sec nano HGO.out r2 hr2 w')
     have HN0 := Lib.hid (fun w' => nextUtc_any 0 S0 hok0 sec nano HGO.out r0 hr0 w')
     obtain ⟨g1, g2, -, -⟩ := goodB_iff.1 HGO.out
     have HNN := Lib.hid (fun w' => cronNone_any 0 S0 hok0 sec nano g1 g2 w')
     have HRL := Lib.hid hr0
     have HER := Lib.hid (fun w' => earlier_any r1 r2 w')
     rw [← hr0d] at HER
     have HU := Lib.hid (fun w' => cronUtc_any w')
     unfold utcZone at HU HN1 HN2 HN0 HNN
     clear hle hok k0 k1 k2 k3 k4 e1 e2 e3 e4 e5 z1 z2 z3 z4 z5 y3 y5 hq q0 q1 q2 q3 q4 qm0 qm1 hd63 hw63 hsz hjA hjB hjL hS0 hok0 hok1 hok2 hr1 hr2 hr0 hr0d hS1 hS2 HOK5 hlA hlB hix HST H5 HGO hll
     have h55 : (5 : Nat) ≤ 5 := Nat.le_refl _
     go_wp2_with fail
     refine (HJA.out _ _ _ HA5.out h55).mono ?_
     rintro e wj1 ⟨rfl, hbj⟩
     have HB5j := Lib.hid (row_keep HB5.out hbj)
     have HL5j := Lib.hid (row_keep HL5.out hbj)
     have HT5j := Lib.hid (row_keep HT5.out hbj)
     have hBj1 := below_of_le hB5 hbj
     clear hbj HJA HB5 HL5 HT5 hB5
     try dsimp only
     go_wp2_with fail
     refine (HP1.out _ (HG.out _ hBj1)).mono ?_
     rintro e wp1 ⟨rfl, hbp⟩
     have HB5p := Lib.hid (row_keep HB5j.out hbp)
     have HL5p := Lib.hid (row_keep HL5j.out hbp)
     have HT5p := Lib.hid (row_keep HT5j.out hbp)
     have hBp1 := below_of_le hBj1 hbp
     clear hbp HP1 HB5j HL5j HT5j hBj1
     try dsimp only
     go_upto_region 16 with (go_big_may; refine wpList_store_row rfl 26 _ _ rfl wp1.heap.size (setsCells 0 S1) rfl rfl 26 _ (heap_alloc_new wp1 _) schedSize rfl (by simp [setsCells, Value.oneCell']) ?_)
     try dsimp only [Act.put]
     generalize hY : World.setRow _ _ _ = ws1
     have HS1 := Lib.hid (show ws1.heap[wp1.heap.size]? = some (.cells (setsCells 0 S1) 26 (0, 0)) by rw [← hY]; exact setRow_heap _ _ _ _ _ _ (heap_alloc_new wp1 _))
     have hbs : Below wp1.heap.size wp1 ws1 := by rw [← hY]; exact below_setRow ((Below.refl _ _).alloc (Nat.le_refl _) _) (Nat.le_refl _) _
     clear hY
     have HB5s := Lib.hid (row_keep HB5p.out hbs)
     have HL5s := Lib.hid (row_keep HL5p.out hbs)
     have HT5s := Lib.hid (row_keep HT5p.out hbs)
     have hBs1 := below_of_le hBp1 hbs
     have hl1 : w.heap.size + 1 < wp1.heap.size := row_lt HT5p.out
     clear hbs HB5p HL5p HT5p hBp1
     generalize wp1.heap.size = g14 at *
     go_wp2_with fail
     refine (HJB.out _ _ _ HB5s.out h55).mono ?_
     rintro e wj2 ⟨rfl, hbj⟩
     have HL5sj := Lib.hid (row_keep HL5s.out hbj)
     have HT5sj := Lib.hid (row_keep HT5s.out hbj)
     have HS1j := Lib.hid (row_keep HS1.out hbj)
     have hBj2 := below_of_le hBs1 hbj
     clear hbj HJB HL5s HT5s HS1 hBs1
     try dsimp only
     go_wp2_with fail
     refine (HP2.out _ (HG.out _ hBj2)).mono ?_
     rintro e wp2 ⟨rfl, hbp⟩
     have HL5sp := Lib.hid (row_keep HL5sj.out hbp)
     have HT5sp := Lib.hid (row_keep HT5sj.out hbp)
     have HS1p := Lib.hid (row_keep HS1j.out hbp)
     have hBp2 := below_of_le hBj2 hbp
     clear hbp HP2 HL5sj HT5sj HS1j hBj2
     try dsimp only
     go_upto_region 17 with (go_big_may; refine wpList_store_row rfl 26 _ _ rfl wp2.heap.size (setsCells 0 S2) rfl rfl 26 _ (heap_alloc_new wp2 _) schedSize rfl (by simp [setsCells, Value.oneCell']) ?_)
     try dsimp only [Act.put]
     generalize hY : World.setRow _ _ _ = ws2
     have HS2 := Lib.hid (show ws2.heap[wp2.heap.size]? = some (.cells (setsCells 0 S2) 26 (0, 0)) by rw [← hY]; exact setRow_heap _ _ _ _ _ _ (heap_alloc_new wp2 _))
     have hbs : Below wp2.heap.size wp2 ws2 := by rw [← hY]; exact below_setRow ((Below.refl _ _).alloc (Nat.le_refl _) _) (Nat.le_refl _) _
     clear hY
     have HL5ss := Lib.hid (row_keep HL5sp.out hbs)
     have HT5ss := Lib.hid (row_keep HT5sp.out hbs)
     have HS1s := Lib.hid (row_keep HS1p.out hbs)
     have hBs2 := below_of_le hBp2 hbs
     have hl2 : w.heap.size + 1 < wp2.heap.size := row_lt HT5sp.out
     clear hbs HL5sp HT5sp HS1p hBp2
     generalize wp2.heap.size = g16 at *
     go_wp2_with fail
     refine (HJL.out _ _ _ HL5ss.out h55).mono ?_
     rintro e wj3 ⟨rfl, hbj⟩
     have HT5ssj := Lib.hid (row_keep HT5ss.out hbj)
     have HS1sj := Lib.hid (row_keep HS1s.out hbj)
     have HS2j := Lib.hid (row_keep HS2.out hbj)
     have hBj3 := below_of_le hBs2 hbj
     clear hbj HJL HT5ss HS1s HS2 hBs2
     try dsimp only
     go_wp2_with fail
     refine (HP0.out _ (HG.out _ hBj3)).mono ?_
     rintro e wp3 ⟨rfl, hbp⟩
     have HT5ssp := Lib.hid (row_keep HT5ssj.out hbp)
     have HS1sp := Lib.hid (row_keep HS1sj.out hbp)
     have HS2p := Lib.hid (row_keep HS2j.out hbp)
     have hBp3 := below_of_le hBj3 hbp
     clear hbp HP0 HT5ssj HS1sj HS2j hBj3
     try dsimp only
     go_upto_region 18 with (go_big_may; refine wpList_store_row rfl 26 _ _ rfl wp3.heap.size (setsCells 0 S0) rfl rfl 26 _ (heap_alloc_new wp3 _) schedSize rfl (by simp [setsCells, Value.oneCell']) ?_)
     try dsimp only [Act.put]
     generalize hY : World.setRow _ _ _ = ws3
     have HS3 := Lib.hid (show ws3.heap[wp3.heap.size]? = some (.cells (setsCells 0 S0) 26 (0, 0)) by rw [← hY]; exact setRow_heap _ _ _ _ _ _ (heap_alloc_new wp3 _))
     have hbs : Below wp3.heap.size wp3 ws3 := by rw [← hY]; exact below_setRow ((Below.refl _ _).alloc (Nat.le_refl _) _) (Nat.le_refl _) _
     clear hY
     have HT5sss := Lib.hid (row_keep HT5ssp.out hbs)
     have HS1ss := Lib.hid (row_keep HS1sp.out hbs)
     have HS2s := Lib.hid (row_keep HS2p.out hbs)
     have hBs3 := below_of_le hBp3 hbs
     have hl3 : w.heap.size + 1 < wp3.heap.size := row_lt HT5ssp.out
     clear hbs HT5ssp HS1sp HS2p hBp3
     generalize wp3.heap.size = g18 at *
     go_upto_region 20 with fail
     obtain ⟨wo, hwo⟩ : ∃ wo : World, wo = ws3 := ⟨_, rfl⟩
     subst hwo
     have q1 := HS1ss.out
     have q2 := HS2s.out
     have q0 := HS3.out
     have qt := HT5sss.out
     refine start_ (n := 10) (S := fun w' => w'.heap[g14]? = some (.cells (setsCells 0 S1) 26 (0, 0)) ∧ w'.heap[g16]? = some (.cells (setsCells 0 S2) 26 (0, 0)) ∧ w'.heap[g18]? = some (.cells (setsCells 0 S0) 26 (0, 0)) ∧ w'.heap[w.heap.size + 1]? = some (.cells #[.int .i64 sec, .int .i64 nano] 50 (0, 0)) ∧ Below wo.heap.size wo w') (ds := [8]) #[false, false, false, false, false, false, false, false, false, false] (by kernel_rfl) rfl rfl ⟨q1, q2, q0, qt, (Below.refl _ _).drew⟩ (fun hHeld => ?_)
     refine take_ (i := 0) (N := some 114) (v := ?_) (a' := ?_) #[true, false, false, false, false, false, false, false, false, false] rfl rfl (by kernel_rfl) (fun _ _ _ h => h) (Or.inl ⟨by rfl, ?_⟩) hHeld ?_ ?_
     rotate_left
     ·rintro w' ⟨s0, s1, s2, s3, s4⟩
      refine exec_load_row _ _ w' 26 (.tmp 14) ?_ g14 ?_ _ _ _ _ s0 Tryz.underlying26 rfl schedSize
      ·rfl
      ·rfl
     rotate_left
     ·simp only [Act.put, List.setIfInBounds_toArray, List.set_cons_zero, List.set_cons_succ, i64_w, i32_w]
      rfl
     refine take_ (i := 1) (N := some 115) (v := ?_) (a' := ?_) #[true, true, false, false, false, false, false, false, false, false] rfl rfl (by kernel_rfl) (fun _ _ _ h => h) (Or.inl ⟨by rfl, ?_⟩) hHeld ?_ ?_
     rotate_left
     ·rintro w' ⟨s0, s1, s2, s3, s4⟩
      refine exec_load_row _ _ w' 50 (.tmp 4) ?_ (w.heap.size + 1) ?_ _ _ _ _ s3 Tryz.underlying50 rfl instSizeE
      ·rfl
      ·rfl
     rotate_left
     ·simp only [Act.put, List.setIfInBounds_toArray, List.set_cons_zero, List.set_cons_succ, i64_w, i32_w]
      rfl
     refine join_ (σ := Nat) 2 #[true, true, true, true, true, true, true, true, false, false] (fun s => [(116, .agg #[.slice none 0 0, .slice none 0 0, .slice none 0 0, .slice none 0 0]), (117, .tuple #[.agg (ansI 0 r1), .bool r1.isSome]), (113, .tuple #[.agg (ansI 0 r1), .bool r1.isSome]), (118, .agg (ansI 0 r1)), (119, .bool r1.isSome), (20, .pointer (some ⟨s, 0, none⟩))]) (fun s w' => InstRow w' s ∧ wo.heap.size ≤ s ∧ (w'.heap[g14]? = some (.cells (setsCells 0 S1) 26 (0, 0)) ∧ w'.heap[g16]? = some (.cells (setsCells 0 S2) 26 (0, 0)) ∧ w'.heap[g18]? = some (.cells (setsCells 0 S0) 26 (0, 0)) ∧ w'.heap[w.heap.size + 1]? = some (.cells #[.int .i64 sec, .int .i64 nano] 50 (0, 0)) ∧ Below wo.heap.size wo w')) ?_ ?_
     rotate_left
     ·intro hCont
      refine two_ (i := 2) (j := 7) (Ni := some 116) (Nj := some 20) #[true, true, true, false, false, false, false, false, false, false] #[true, true, false, false, false, false, false, true, false, false] rfl rfl rfl rfl (by kernel_rfl) (by decide) (by decide) (fun K hK => ?_) (fun K hK => ?_)
      ·skip
       refine goes_ Tryz.func28 (by kernel_rfl) rfl #[] (by rfl) rfl rfl (by simp only [List.map_toArray, List.map_nil]) ?_
       with_reducible refine (HU.out _).mono ?_
       rintro e w4 ⟨rfl, hb4⟩
       refine ⟨_, rfl, ?_⟩
       refine hK.out _ _ ⟨row_keep hHeld.1 hb4, row_keep hHeld.2.1 hb4, row_keep hHeld.2.2.1 hb4, row_keep hHeld.2.2.2.1 hb4, below_le hHeld.2.2.2.2 hb4⟩ (fun hHeld => ?_)
       clear hK K
       refine norm_ (a' := ?_) ?_ ?_
       rotate_left
       ·show Act.put _ (some 116) _ = _
        simp only [Act.put, List.setIfInBounds_toArray, List.set_cons_zero, List.set_cons_succ, i64_w, i32_w]
        rfl
       refine two_ (i := 3) (j := 7) (Ni := some 117) (Nj := some 20) #[true, true, true, true, false, false, false, false, false, false] #[true, true, true, false, false, false, false, true, false, false] rfl rfl rfl rfl (by kernel_rfl) (by decide) (by decide) (fun K hK => ?_) (fun K hK => ?_)
       ·skip
        refine goes_ Tryz.func27 (by kernel_rfl) rfl #[.agg (setsCells 0 S1), .agg #[.int .i64 sec, .int .i64 nano], .agg #[.slice none 0 0, .slice none 0 0, .slice none 0 0, .slice none 0 0]] (by rfl) rfl rfl (by simp only [List.map_toArray, List.map_cons, List.map_nil]; rfl) ?_
        with_reducible refine (HN1.out _).mono ?_
        rintro e w5 ⟨rfl, hb5⟩
        refine ⟨_, rfl, ?_⟩
        refine hK.out _ _ ⟨row_keep hHeld.1 hb5, row_keep hHeld.2.1 hb5, row_keep hHeld.2.2.1 hb5, row_keep hHeld.2.2.2.1 hb5, below_le hHeld.2.2.2.2 hb5⟩ (fun hHeld => ?_)
        clear hK K
        refine norm_ (a' := ?_) ?_ ?_
        rotate_left
        ·show Act.put _ (some 117) _ = _
         simp only [Act.put, List.setIfInBounds_toArray, List.set_cons_zero, List.set_cons_succ, i64_w, i32_w]
         rfl
        refine pure_ (i := 4) (N := some 113) (v := ?_) (a' := ?_) #[true, true, true, true, true, false, false, false, false, false] rfl rfl (by kernel_rfl) (fun _ _ _ h => h) (Or.inl ⟨by rfl, ?_⟩) ?_ ?_
        rotate_left
        ·intro w'
         go_simp
         with_reducible rfl
        rotate_left
        ·simp only [Act.put, List.setIfInBounds_toArray, List.set_cons_zero, List.set_cons_succ, i64_w, i32_w]
         rfl
        refine pure_ (i := 5) (N := some 118) (v := ?_) (a' := ?_) #[true, true, true, true, true, true, false, false, false, false] rfl rfl (by kernel_rfl) (fun _ _ _ h => h) (Or.inl ⟨by rfl, ?_⟩) ?_ ?_
        rotate_left
        ·intro w'
         go_simp
         with_reducible rfl
        rotate_left
        ·simp only [Act.put, List.setIfInBounds_toArray, List.set_cons_zero, List.set_cons_succ, i64_w, i32_w]
         rfl
        refine pure_ (i := 6) (N := some 119) (v := ?_) (a' := ?_) #[true, true, true, true, true, true, true, false, false, false] rfl rfl (by kernel_rfl) (fun _ _ _ h => h) (Or.inl ⟨by rfl, ?_⟩) ?_ ?_
        rotate_left
        ·intro w'
         go_simp
         with_reducible rfl
        rotate_left
        ·simp only [Act.put, List.setIfInBounds_toArray, List.set_cons_zero, List.set_cons_succ, i64_w, i32_w]
         rfl
        refine one_ (i := 7) (N := some 20) #[true, true, true, true, true, true, true, true, false, false] rfl rfl (by kernel_rfl) (by decide) (fun K hK => ?_)
        have hge7 := hHeld.2.2.2.2.size
        have hs7 := instRow_of hHeld.2.2.2.2
        refine value_ (by rfl) rfl (exec_alloc_inst _ _ _ rfl) ?_
        refine hK.out _ _ ⟨row_new hHeld.1, row_new hHeld.2.1, row_new hHeld.2.2.1, row_new hHeld.2.2.2.1, hHeld.2.2.2.2.alloc hHeld.2.2.2.2.size _⟩ (fun hHeld => ?_)
        clear hK K
        refine norm_ (a' := ?_) ?_ ?_
        rotate_left
        ·show Act.put _ (some 20) _ = _
         simp only [Act.put, List.setIfInBounds_toArray, List.set_cons_zero, List.set_cons_succ, i64_w, i32_w]
         rfl
        exact norm_ (by simp only [putAll, Act.put, List.setIfInBounds_toArray, List.set_cons_zero, List.set_cons_succ]) (hCont w5.heap.size _ ⟨hs7, hge7, hHeld⟩)
       ·skip
        have hge7 := hHeld.2.2.2.2.size
        have hs7 := instRow_of hHeld.2.2.2.2
        refine value_ (by rfl) rfl (exec_alloc_inst _ _ _ rfl) ?_
        refine hK.out _ _ ⟨row_new hHeld.1, row_new hHeld.2.1, row_new hHeld.2.2.1, row_new hHeld.2.2.2.1, hHeld.2.2.2.2.alloc hHeld.2.2.2.2.size _⟩ (fun hHeld => ?_)
        clear hK K
        refine norm_ (a' := ?_) ?_ ?_
        rotate_left
        ·show Act.put _ (some 20) _ = _
         simp only [Act.put, List.setIfInBounds_toArray, List.set_cons_zero, List.set_cons_succ, i64_w, i32_w]
         rfl
        refine one_ (i := 3) (N := some 117) #[true, true, true, true, false, false, false, true, false, false] rfl rfl (by kernel_rfl) (by decide) (fun K hK => ?_)
        refine goes_ Tryz.func27 (by kernel_rfl) rfl #[.agg (setsCells 0 S1), .agg #[.int .i64 sec, .int .i64 nano], .agg #[.slice none 0 0, .slice none 0 0, .slice none 0 0, .slice none 0 0]] (by rfl) rfl rfl (by simp only [List.map_toArray, List.map_cons, List.map_nil]; rfl) ?_
        with_reducible refine (HN1.out _).mono ?_
        rintro e w5 ⟨rfl, hb5⟩
        refine ⟨_, rfl, ?_⟩
        refine hK.out _ _ ⟨row_keep hHeld.1 hb5, row_keep hHeld.2.1 hb5, row_keep hHeld.2.2.1 hb5, row_keep hHeld.2.2.2.1 hb5, below_le hHeld.2.2.2.2 hb5⟩ (fun hHeld => ?_)
        clear hK K
        refine norm_ (a' := ?_) ?_ ?_
        rotate_left
        ·show Act.put _ (some 117) _ = _
         simp only [Act.put, List.setIfInBounds_toArray, List.set_cons_zero, List.set_cons_succ, i64_w, i32_w]
         rfl
        refine pure_ (i := 4) (N := some 113) (v := ?_) (a' := ?_) #[true, true, true, true, true, false, false, true, false, false] rfl rfl (by kernel_rfl) (fun _ _ _ h => h) (Or.inl ⟨by rfl, ?_⟩) ?_ ?_
        rotate_left
        ·intro w'
         go_simp
         with_reducible rfl
        rotate_left
        ·simp only [Act.put, List.setIfInBounds_toArray, List.set_cons_zero, List.set_cons_succ, i64_w, i32_w]
         rfl
        refine pure_ (i := 5) (N := some 118) (v := ?_) (a' := ?_) #[true, true, true, true, true, true, false, true, false, false] rfl rfl (by kernel_rfl) (fun _ _ _ h => h) (Or.inl ⟨by rfl, ?_⟩) ?_ ?_
        rotate_left
        ·intro w'
         go_simp
         with_reducible rfl
        rotate_left
        ·simp only [Act.put, List.setIfInBounds_toArray, List.set_cons_zero, List.set_cons_succ, i64_w, i32_w]
         rfl
        refine pure_ (i := 6) (N := some 119) (v := ?_) (a' := ?_) #[true, true, true, true, true, true, true, true, false, false] rfl rfl (by kernel_rfl) (fun _ _ _ h => h) (Or.inl ⟨by rfl, ?_⟩) ?_ ?_
        rotate_left
        ·intro w'
         go_simp
         with_reducible rfl
        rotate_left
        ·simp only [Act.put, List.setIfInBounds_toArray, List.set_cons_zero, List.set_cons_succ, i64_w, i32_w]
         rfl
        exact norm_ (by simp only [putAll, Act.put, List.setIfInBounds_toArray, List.set_cons_zero, List.set_cons_succ]) (hCont w4.heap.size _ ⟨hs7.below hb5, hge7, hHeld⟩)
      ·skip
       have hge7 := hHeld.2.2.2.2.size
       have hs7 := instRow_of hHeld.2.2.2.2
       refine value_ (by rfl) rfl (exec_alloc_inst _ _ _ rfl) ?_
       refine hK.out _ _ ⟨row_new hHeld.1, row_new hHeld.2.1, row_new hHeld.2.2.1, row_new hHeld.2.2.2.1, hHeld.2.2.2.2.alloc hHeld.2.2.2.2.size _⟩ (fun hHeld => ?_)
       clear hK K
       refine norm_ (a' := ?_) ?_ ?_
       rotate_left
       ·show Act.put _ (some 20) _ = _
        simp only [Act.put, List.setIfInBounds_toArray, List.set_cons_zero, List.set_cons_succ, i64_w, i32_w]
        rfl
       refine one_ (i := 2) (N := some 116) #[true, true, true, false, false, false, false, true, false, false] rfl rfl (by kernel_rfl) (by decide) (fun K hK => ?_)
       refine goes_ Tryz.func28 (by kernel_rfl) rfl #[] (by rfl) rfl rfl (by simp only [List.map_toArray, List.map_nil]) ?_
       with_reducible refine (HU.out _).mono ?_
       rintro e w4 ⟨rfl, hb4⟩
       refine ⟨_, rfl, ?_⟩
       refine hK.out _ _ ⟨row_keep hHeld.1 hb4, row_keep hHeld.2.1 hb4, row_keep hHeld.2.2.1 hb4, row_keep hHeld.2.2.2.1 hb4, below_le hHeld.2.2.2.2 hb4⟩ (fun hHeld => ?_)
       clear hK K
       refine norm_ (a' := ?_) ?_ ?_
       rotate_left
       ·show Act.put _ (some 116) _ = _
        simp only [Act.put, List.setIfInBounds_toArray, List.set_cons_zero, List.set_cons_succ, i64_w, i32_w]
        rfl
       refine one_ (i := 3) (N := some 117) #[true, true, true, true, false, false, false, true, false, false] rfl rfl (by kernel_rfl) (by decide) (fun K hK => ?_)
       refine goes_ Tryz.func27 (by kernel_rfl) rfl #[.agg (setsCells 0 S1), .agg #[.int .i64 sec, .int .i64 nano], .agg #[.slice none 0 0, .slice none 0 0, .slice none 0 0, .slice none 0 0]] (by rfl) rfl rfl (by simp only [List.map_toArray, List.map_cons, List.map_nil]; rfl) ?_
       with_reducible refine (HN1.out _).mono ?_
       rintro e w5 ⟨rfl, hb5⟩
       refine ⟨_, rfl, ?_⟩
       refine hK.out _ _ ⟨row_keep hHeld.1 hb5, row_keep hHeld.2.1 hb5, row_keep hHeld.2.2.1 hb5, row_keep hHeld.2.2.2.1 hb5, below_le hHeld.2.2.2.2 hb5⟩ (fun hHeld => ?_)
       clear hK K
       refine norm_ (a' := ?_) ?_ ?_
       rotate_left
       ·show Act.put _ (some 117) _ = _
        simp only [Act.put, List.setIfInBounds_toArray, List.set_cons_zero, List.set_cons_succ, i64_w, i32_w]
        rfl
       refine pure_ (i := 4) (N := some 113) (v := ?_) (a' := ?_) #[true, true, true, true, true, false, false, true, false, false] rfl rfl (by kernel_rfl) (fun _ _ _ h => h) (Or.inl ⟨by rfl, ?_⟩) ?_ ?_
       rotate_left
       ·intro w'
        go_simp
        with_reducible rfl
       rotate_left
       ·simp only [Act.put, List.setIfInBounds_toArray, List.set_cons_zero, List.set_cons_succ, i64_w, i32_w]
        rfl
       refine pure_ (i := 5) (N := some 118) (v := ?_) (a' := ?_) #[true, true, true, true, true, true, false, true, false, false] rfl rfl (by kernel_rfl) (fun _ _ _ h => h) (Or.inl ⟨by rfl, ?_⟩) ?_ ?_
       rotate_left
       ·intro w'
        go_simp
        with_reducible rfl
       rotate_left
       ·simp only [Act.put, List.setIfInBounds_toArray, List.set_cons_zero, List.set_cons_succ, i64_w, i32_w]
        rfl
       refine pure_ (i := 6) (N := some 119) (v := ?_) (a' := ?_) #[true, true, true, true, true, true, true, true, false, false] rfl rfl (by kernel_rfl) (fun _ _ _ h => h) (Or.inl ⟨by rfl, ?_⟩) ?_ ?_
       rotate_left
       ·intro w'
        go_simp
        with_reducible rfl
       rotate_left
       ·simp only [Act.put, List.setIfInBounds_toArray, List.set_cons_zero, List.set_cons_succ, i64_w, i32_w]
        rfl
       exact norm_ (by simp only [putAll, Act.put, List.setIfInBounds_toArray, List.set_cons_zero, List.set_cons_succ]) (hCont wo.drew.heap.size _ ⟨(hs7.below hb4).below hb5, hge7, hHeld⟩)
     rintro g7 w5 ⟨hs7, hge7, hHeld⟩
     refine norm_ (a' := ?_) ?_ ?_
     rotate_left
     ·simp only [putAll, Act.put, List.setIfInBounds_toArray, List.set_cons_zero, List.set_cons_succ]
      rfl
     refine last_ (i := 8) (N := none) #[true, true, true, true, true, true, true, true, true, false] rfl rfl (by kernel_rfl) (by decide) (fun K hK => ?_)
     rw [if_pos (by rfl)]
     refine wp_store_row 50 _ _ rfl g7 (ansI 0 r1) rfl rfl 50 instZ hs7 (by rw [ansI_size]; exact instSizeE) (by rw [ansI_size]; rfl) (ansI_one 0 r1) ?_
     go_simp
     refine hK.out _ _ ?_
     clear hK K
     refine pure_ (i := 9) (N := some 21) (v := ?_) (a' := ?_) #[true, true, true, true, true, true, true, true, true, true] rfl rfl (by kernel_rfl) (fun _ _ _ h => h) (Or.inl ⟨by rfl, ?_⟩) ?_ ?_
     rotate_left
     ·intro w'
      go_simp
      with_reducible rfl
     rotate_left
     ·simp only [Act.put, List.setIfInBounds_toArray, List.set_cons_zero, List.set_cons_succ, i64_w, i32_w]
      rfl
     refine done_ (by kernel_rfl) ?_
     have lq1 := row_lt q1
     have lq2 := row_lt q2
     have lq0 := row_lt q0
     have lqt := row_lt qt
     generalize hY : World.setRow _ _ _ = wx20
     have HX20 := Lib.hid (show wx20.heap[g7]? = some (.cells (ansI 0 r1) 50 (0, 0)) by rw [← hY]; exact setRow_heap _ _ _ _ _ _ hs7)
     have HNS120 := Lib.hid (show wx20.heap[g14]? = some (.cells (setsCells 0 S1) 26 (0, 0)) by rw [← hY]; exact (setRow_other _ _ _ _ (by omega)).trans hHeld.1)
     have HNS220 := Lib.hid (show wx20.heap[g16]? = some (.cells (setsCells 0 S2) 26 (0, 0)) by rw [← hY]; exact (setRow_other _ _ _ _ (by omega)).trans hHeld.2.1)
     have HNS020 := Lib.hid (show wx20.heap[g18]? = some (.cells (setsCells 0 S0) 26 (0, 0)) by rw [← hY]; exact (setRow_other _ _ _ _ (by omega)).trans hHeld.2.2.1)
     have HNT20 := Lib.hid (show wx20.heap[w.heap.size + 1]? = some (.cells #[.int .i64 sec, .int .i64 nano] 50 (0, 0)) by rw [← hY]; exact (setRow_other _ _ _ _ (by omega)).trans hHeld.2.2.2.1)
     have hBx20 : Below w.heap.size w wx20 := by rw [← hY]; exact below_setRow (below_of_le hBs3 hHeld.2.2.2.2) (by omega) _
     clear hY hHeld hs7 hge7 q1 q2 q0 qt lq1 lq2 lq0 lqt HS1ss HS2s HS3 HT5sss  hBs3
     obtain ⟨ga, rfl⟩ : ∃ g : Nat, g = g7 := ⟨_, rfl⟩
     go_upto_region 21 with fail
     obtain ⟨wo, rfl⟩ : ∃ wo : World, wo = wx20 := ⟨_, rfl⟩
     have q1 := HNS120.out
     have q2 := HNS220.out
     have q0 := HNS020.out
     have qt := HNT20.out
     have qa0 := HX20.out
     refine start_ (n := 10) (S := fun w' => w'.heap[g14]? = some (.cells (setsCells 0 S1) 26 (0, 0)) ∧ w'.heap[g16]? = some (.cells (setsCells 0 S2) 26 (0, 0)) ∧ w'.heap[g18]? = some (.cells (setsCells 0 S0) 26 (0, 0)) ∧ w'.heap[w.heap.size + 1]? = some (.cells #[.int .i64 sec, .int .i64 nano] 50 (0, 0)) ∧ w'.heap[ga]? = some (.cells (ansI 0 r1) 50 (0, 0)) ∧ Below wo.heap.size wo w') (ds := [8]) #[false, false, false, false, false, false, false, false, false, false] (by kernel_rfl) rfl rfl ⟨q1, q2, q0, qt, qa0, (Below.refl _ _).drew⟩ (fun hHeld => ?_)
     refine take_ (i := 0) (N := some 121) (v := ?_) (a' := ?_) #[true, false, false, false, false, false, false, false, false, false] rfl rfl (by kernel_rfl) (fun _ _ _ h => h) (Or.inl ⟨by rfl, ?_⟩) hHeld ?_ ?_
     rotate_left
     ·rintro w' ⟨s0, s1, s2, s3, s4, s5⟩
      refine exec_load_row _ _ w' 26 (.tmp 16) ?_ g16 ?_ _ _ _ _ s1 Tryz.underlying26 rfl schedSize
      ·rfl
      ·rfl
     rotate_left
     ·simp only [Act.put, List.setIfInBounds_toArray, List.set_cons_zero, List.set_cons_succ, i64_w, i32_w]
      rfl
     refine take_ (i := 1) (N := some 122) (v := ?_) (a' := ?_) #[true, true, false, false, false, false, false, false, false, false] rfl rfl (by kernel_rfl) (fun _ _ _ h => h) (Or.inl ⟨by rfl, ?_⟩) hHeld ?_ ?_
     rotate_left
     ·rintro w' ⟨s0, s1, s2, s3, s4, s5⟩
      refine exec_load_row _ _ w' 50 (.tmp 4) ?_ (w.heap.size + 1) ?_ _ _ _ _ s3 Tryz.underlying50 rfl instSizeE
      ·rfl
      ·rfl
     rotate_left
     ·simp only [Act.put, List.setIfInBounds_toArray, List.set_cons_zero, List.set_cons_succ, i64_w, i32_w]
      rfl
     refine join_ (σ := Nat) 2 #[true, true, true, true, true, true, true, true, false, false] (fun s => [(123, .agg #[.slice none 0 0, .slice none 0 0, .slice none 0 0, .slice none 0 0]), (124, .tuple #[.agg (ansI 0 r2), .bool r2.isSome]), (120, .tuple #[.agg (ansI 0 r2), .bool r2.isSome]), (125, .agg (ansI 0 r2)), (126, .bool r2.isSome), (22, .pointer (some ⟨s, 0, none⟩))]) (fun s w' => InstRow w' s ∧ wo.heap.size ≤ s ∧ (w'.heap[g14]? = some (.cells (setsCells 0 S1) 26 (0, 0)) ∧ w'.heap[g16]? = some (.cells (setsCells 0 S2) 26 (0, 0)) ∧ w'.heap[g18]? = some (.cells (setsCells 0 S0) 26 (0, 0)) ∧ w'.heap[w.heap.size + 1]? = some (.cells #[.int .i64 sec, .int .i64 nano] 50 (0, 0)) ∧ w'.heap[ga]? = some (.cells (ansI 0 r1) 50 (0, 0)) ∧ Below wo.heap.size wo w')) ?_ ?_
     rotate_left
     ·intro hCont
      refine two_ (i := 2) (j := 7) (Ni := some 123) (Nj := some 22) #[true, true, true, false, false, false, false, false, false, false] #[true, true, false, false, false, false, false, true, false, false] rfl rfl rfl rfl (by kernel_rfl) (by decide) (by decide) (fun K hK => ?_) (fun K hK => ?_)
      ·skip
       refine goes_ Tryz.func28 (by kernel_rfl) rfl #[] (by rfl) rfl rfl (by simp only [List.map_toArray, List.map_nil]) ?_
       with_reducible refine (HU.out _).mono ?_
       rintro e w4 ⟨rfl, hb4⟩
       refine ⟨_, rfl, ?_⟩
       refine hK.out _ _ ⟨row_keep hHeld.1 hb4, row_keep hHeld.2.1 hb4, row_keep hHeld.2.2.1 hb4, row_keep hHeld.2.2.2.1 hb4, row_keep hHeld.2.2.2.2.1 hb4, below_le hHeld.2.2.2.2.2 hb4⟩ (fun hHeld => ?_)
       clear hK K
       refine norm_ (a' := ?_) ?_ ?_
       rotate_left
       ·show Act.put _ (some 123) _ = _
        simp only [Act.put, List.setIfInBounds_toArray, List.set_cons_zero, List.set_cons_succ, i64_w, i32_w]
        rfl
       refine two_ (i := 3) (j := 7) (Ni := some 124) (Nj := some 22) #[true, true, true, true, false, false, false, false, false, false] #[true, true, true, false, false, false, false, true, false, false] rfl rfl rfl rfl (by kernel_rfl) (by decide) (by decide) (fun K hK => ?_) (fun K hK => ?_)
       ·skip
        refine goes_ Tryz.func27 (by kernel_rfl) rfl #[.agg (setsCells 0 S2), .agg #[.int .i64 sec, .int .i64 nano], .agg #[.slice none 0 0, .slice none 0 0, .slice none 0 0, .slice none 0 0]] (by rfl) rfl rfl (by simp only [List.map_toArray, List.map_cons, List.map_nil]; rfl) ?_
        with_reducible refine (HN2.out _).mono ?_
        rintro e w5 ⟨rfl, hb5⟩
        refine ⟨_, rfl, ?_⟩
        refine hK.out _ _ ⟨row_keep hHeld.1 hb5, row_keep hHeld.2.1 hb5, row_keep hHeld.2.2.1 hb5, row_keep hHeld.2.2.2.1 hb5, row_keep hHeld.2.2.2.2.1 hb5, below_le hHeld.2.2.2.2.2 hb5⟩ (fun hHeld => ?_)
        clear hK K
        refine norm_ (a' := ?_) ?_ ?_
        rotate_left
        ·show Act.put _ (some 124) _ = _
         simp only [Act.put, List.setIfInBounds_toArray, List.set_cons_zero, List.set_cons_succ, i64_w, i32_w]
         rfl
        refine pure_ (i := 4) (N := some 120) (v := ?_) (a' := ?_) #[true, true, true, true, true, false, false, false, false, false] rfl rfl (by kernel_rfl) (fun _ _ _ h => h) (Or.inl ⟨by rfl, ?_⟩) ?_ ?_
        rotate_left
        ·intro w'
         go_simp
         with_reducible rfl
        rotate_left
        ·simp only [Act.put, List.setIfInBounds_toArray, List.set_cons_zero, List.set_cons_succ, i64_w, i32_w]
         rfl
        refine pure_ (i := 5) (N := some 125) (v := ?_) (a' := ?_) #[true, true, true, true, true, true, false, false, false, false] rfl rfl (by kernel_rfl) (fun _ _ _ h => h) (Or.inl ⟨by rfl, ?_⟩) ?_ ?_
        rotate_left
        ·intro w'
         go_simp
         with_reducible rfl
        rotate_left
        ·simp only [Act.put, List.setIfInBounds_toArray, List.set_cons_zero, List.set_cons_succ, i64_w, i32_w]
         rfl
        refine pure_ (i := 6) (N := some 126) (v := ?_) (a' := ?_) #[true, true, true, true, true, true, true, false, false, false] rfl rfl (by kernel_rfl) (fun _ _ _ h => h) (Or.inl ⟨by rfl, ?_⟩) ?_ ?_
        rotate_left
        ·intro w'
         go_simp
         with_reducible rfl
        rotate_left
        ·simp only [Act.put, List.setIfInBounds_toArray, List.set_cons_zero, List.set_cons_succ, i64_w, i32_w]
         rfl
        refine one_ (i := 7) (N := some 22) #[true, true, true, true, true, true, true, true, false, false] rfl rfl (by kernel_rfl) (by decide) (fun K hK => ?_)
        have hge7 := hHeld.2.2.2.2.2.size
        have hs7 := instRow_of hHeld.2.2.2.2.2
        refine value_ (by rfl) rfl (exec_alloc_inst _ _ _ rfl) ?_
        refine hK.out _ _ ⟨row_new hHeld.1, row_new hHeld.2.1, row_new hHeld.2.2.1, row_new hHeld.2.2.2.1, row_new hHeld.2.2.2.2.1, hHeld.2.2.2.2.2.alloc hHeld.2.2.2.2.2.size _⟩ (fun hHeld => ?_)
        clear hK K
        refine norm_ (a' := ?_) ?_ ?_
        rotate_left
        ·show Act.put _ (some 22) _ = _
         simp only [Act.put, List.setIfInBounds_toArray, List.set_cons_zero, List.set_cons_succ, i64_w, i32_w]
         rfl
        exact norm_ (by simp only [putAll, Act.put, List.setIfInBounds_toArray, List.set_cons_zero, List.set_cons_succ]) (hCont w5.heap.size _ ⟨hs7, hge7, hHeld⟩)
       ·skip
        have hge7 := hHeld.2.2.2.2.2.size
        have hs7 := instRow_of hHeld.2.2.2.2.2
        refine value_ (by rfl) rfl (exec_alloc_inst _ _ _ rfl) ?_
        refine hK.out _ _ ⟨row_new hHeld.1, row_new hHeld.2.1, row_new hHeld.2.2.1, row_new hHeld.2.2.2.1, row_new hHeld.2.2.2.2.1, hHeld.2.2.2.2.2.alloc hHeld.2.2.2.2.2.size _⟩ (fun hHeld => ?_)
        clear hK K
        refine norm_ (a' := ?_) ?_ ?_
        rotate_left
        ·show Act.put _ (some 22) _ = _
         simp only [Act.put, List.setIfInBounds_toArray, List.set_cons_zero, List.set_cons_succ, i64_w, i32_w]
         rfl
        refine one_ (i := 3) (N := some 124) #[true, true, true, true, false, false, false, true, false, false] rfl rfl (by kernel_rfl) (by decide) (fun K hK => ?_)
        refine goes_ Tryz.func27 (by kernel_rfl) rfl #[.agg (setsCells 0 S2), .agg #[.int .i64 sec, .int .i64 nano], .agg #[.slice none 0 0, .slice none 0 0, .slice none 0 0, .slice none 0 0]] (by rfl) rfl rfl (by simp only [List.map_toArray, List.map_cons, List.map_nil]; rfl) ?_
        with_reducible refine (HN2.out _).mono ?_
        rintro e w5 ⟨rfl, hb5⟩
        refine ⟨_, rfl, ?_⟩
        refine hK.out _ _ ⟨row_keep hHeld.1 hb5, row_keep hHeld.2.1 hb5, row_keep hHeld.2.2.1 hb5, row_keep hHeld.2.2.2.1 hb5, row_keep hHeld.2.2.2.2.1 hb5, below_le hHeld.2.2.2.2.2 hb5⟩ (fun hHeld => ?_)
        clear hK K
        refine norm_ (a' := ?_) ?_ ?_
        rotate_left
        ·show Act.put _ (some 124) _ = _
         simp only [Act.put, List.setIfInBounds_toArray, List.set_cons_zero, List.set_cons_succ, i64_w, i32_w]
         rfl
        refine pure_ (i := 4) (N := some 120) (v := ?_) (a' := ?_) #[true, true, true, true, true, false, false, true, false, false] rfl rfl (by kernel_rfl) (fun _ _ _ h => h) (Or.inl ⟨by rfl, ?_⟩) ?_ ?_
        rotate_left
        ·intro w'
         go_simp
         with_reducible rfl
        rotate_left
        ·simp only [Act.put, List.setIfInBounds_toArray, List.set_cons_zero, List.set_cons_succ, i64_w, i32_w]
         rfl
        refine pure_ (i := 5) (N := some 125) (v := ?_) (a' := ?_) #[true, true, true, true, true, true, false, true, false, false] rfl rfl (by kernel_rfl) (fun _ _ _ h => h) (Or.inl ⟨by rfl, ?_⟩) ?_ ?_
        rotate_left
        ·intro w'
         go_simp
         with_reducible rfl
        rotate_left
        ·simp only [Act.put, List.setIfInBounds_toArray, List.set_cons_zero, List.set_cons_succ, i64_w, i32_w]
         rfl
        refine pure_ (i := 6) (N := some 126) (v := ?_) (a' := ?_) #[true, true, true, true, true, true, true, true, false, false] rfl rfl (by kernel_rfl) (fun _ _ _ h => h) (Or.inl ⟨by rfl, ?_⟩) ?_ ?_
        rotate_left
        ·intro w'
         go_simp
         with_reducible rfl
        rotate_left
        ·simp only [Act.put, List.setIfInBounds_toArray, List.set_cons_zero, List.set_cons_succ, i64_w, i32_w]
         rfl
        exact norm_ (by simp only [putAll, Act.put, List.setIfInBounds_toArray, List.set_cons_zero, List.set_cons_succ]) (hCont w4.heap.size _ ⟨hs7.below hb5, hge7, hHeld⟩)
      ·skip
       have hge7 := hHeld.2.2.2.2.2.size
       have hs7 := instRow_of hHeld.2.2.2.2.2
       refine value_ (by rfl) rfl (exec_alloc_inst _ _ _ rfl) ?_
       refine hK.out _ _ ⟨row_new hHeld.1, row_new hHeld.2.1, row_new hHeld.2.2.1, row_new hHeld.2.2.2.1, row_new hHeld.2.2.2.2.1, hHeld.2.2.2.2.2.alloc hHeld.2.2.2.2.2.size _⟩ (fun hHeld => ?_)
       clear hK K
       refine norm_ (a' := ?_) ?_ ?_
       rotate_left
       ·show Act.put _ (some 22) _ = _
        simp only [Act.put, List.setIfInBounds_toArray, List.set_cons_zero, List.set_cons_succ, i64_w, i32_w]
        rfl
       refine one_ (i := 2) (N := some 123) #[true, true, true, false, false, false, false, true, false, false] rfl rfl (by kernel_rfl) (by decide) (fun K hK => ?_)
       refine goes_ Tryz.func28 (by kernel_rfl) rfl #[] (by rfl) rfl rfl (by simp only [List.map_toArray, List.map_nil]) ?_
       with_reducible refine (HU.out _).mono ?_
       rintro e w4 ⟨rfl, hb4⟩
       refine ⟨_, rfl, ?_⟩
       refine hK.out _ _ ⟨row_keep hHeld.1 hb4, row_keep hHeld.2.1 hb4, row_keep hHeld.2.2.1 hb4, row_keep hHeld.2.2.2.1 hb4, row_keep hHeld.2.2.2.2.1 hb4, below_le hHeld.2.2.2.2.2 hb4⟩ (fun hHeld => ?_)
       clear hK K
       refine norm_ (a' := ?_) ?_ ?_
       rotate_left
       ·show Act.put _ (some 123) _ = _
        simp only [Act.put, List.setIfInBounds_toArray, List.set_cons_zero, List.set_cons_succ, i64_w, i32_w]
        rfl
       refine one_ (i := 3) (N := some 124) #[true, true, true, true, false, false, false, true, false, false] rfl rfl (by kernel_rfl) (by decide) (fun K hK => ?_)
       refine goes_ Tryz.func27 (by kernel_rfl) rfl #[.agg (setsCells 0 S2), .agg #[.int .i64 sec, .int .i64 nano], .agg #[.slice none 0 0, .slice none 0 0, .slice none 0 0, .slice none 0 0]] (by rfl) rfl rfl (by simp only [List.map_toArray, List.map_cons, List.map_nil]; rfl) ?_
       with_reducible refine (HN2.out _).mono ?_
       rintro e w5 ⟨rfl, hb5⟩
       refine ⟨_, rfl, ?_⟩
       refine hK.out _ _ ⟨row_keep hHeld.1 hb5, row_keep hHeld.2.1 hb5, row_keep hHeld.2.2.1 hb5, row_keep hHeld.2.2.2.1 hb5, row_keep hHeld.2.2.2.2.1 hb5, below_le hHeld.2.2.2.2.2 hb5⟩ (fun hHeld => ?_)
       clear hK K
       refine norm_ (a' := ?_) ?_ ?_
       rotate_left
       ·show Act.put _ (some 124) _ = _
        simp only [Act.put, List.setIfInBounds_toArray, List.set_cons_zero, List.set_cons_succ, i64_w, i32_w]
        rfl
       refine pure_ (i := 4) (N := some 120) (v := ?_) (a' := ?_) #[true, true, true, true, true, false, false, true, false, false] rfl rfl (by kernel_rfl) (fun _ _ _ h => h) (Or.inl ⟨by rfl, ?_⟩) ?_ ?_
       rotate_left
       ·intro w'
        go_simp
        with_reducible rfl
       rotate_left
       ·simp only [Act.put, List.setIfInBounds_toArray, List.set_cons_zero, List.set_cons_succ, i64_w, i32_w]
        rfl
       refine pure_ (i := 5) (N := some 125) (v := ?_) (a' := ?_) #[true, true, true, true, true, true, false, true, false, false] rfl rfl (by kernel_rfl) (fun _ _ _ h => h) (Or.inl ⟨by rfl, ?_⟩) ?_ ?_
       rotate_left
       ·intro w'
        go_simp
        with_reducible rfl
       rotate_left
       ·simp only [Act.put, List.setIfInBounds_toArray, List.set_cons_zero, List.set_cons_succ, i64_w, i32_w]
        rfl
       refine pure_ (i := 6) (N := some 126) (v := ?_) (a' := ?_) #[true, true, true, true, true, true, true, true, false, false] rfl rfl (by kernel_rfl) (fun _ _ _ h => h) (Or.inl ⟨by rfl, ?_⟩) ?_ ?_
       rotate_left
       ·intro w'
        go_simp
        with_reducible rfl
       rotate_left
       ·simp only [Act.put, List.setIfInBounds_toArray, List.set_cons_zero, List.set_cons_succ, i64_w, i32_w]
        rfl
       exact norm_ (by simp only [putAll, Act.put, List.setIfInBounds_toArray, List.set_cons_zero, List.set_cons_succ]) (hCont wo.drew.heap.size _ ⟨(hs7.below hb4).below hb5, hge7, hHeld⟩)
     rintro g7 w5 ⟨hs7, hge7, hHeld⟩
     refine norm_ (a' := ?_) ?_ ?_
     rotate_left
     ·simp only [putAll, Act.put, List.setIfInBounds_toArray, List.set_cons_zero, List.set_cons_succ]
      rfl
     refine last_ (i := 8) (N := none) #[true, true, true, true, true, true, true, true, true, false] rfl rfl (by kernel_rfl) (by decide) (fun K hK => ?_)
     rw [if_pos (by rfl)]
     refine wp_store_row 50 _ _ rfl g7 (ansI 0 r2) rfl rfl 50 instZ hs7 (by rw [ansI_size]; exact instSizeE) (by rw [ansI_size]; rfl) (ansI_one 0 r2) ?_
     go_simp
     refine hK.out _ _ ?_
     clear hK K
     refine pure_ (i := 9) (N := some 23) (v := ?_) (a' := ?_) #[true, true, true, true, true, true, true, true, true, true] rfl rfl (by kernel_rfl) (fun _ _ _ h => h) (Or.inl ⟨by rfl, ?_⟩) ?_ ?_
     rotate_left
     ·intro w'
      go_simp
      with_reducible rfl
     rotate_left
     ·simp only [Act.put, List.setIfInBounds_toArray, List.set_cons_zero, List.set_cons_succ, i64_w, i32_w]
      rfl
     refine done_ (by kernel_rfl) ?_
     have lq1 := row_lt q1
     have lq2 := row_lt q2
     have lq0 := row_lt q0
     have lqt := row_lt qt
     have lqa0 := row_lt qa0
     generalize hY : World.setRow _ _ _ = wx21
     have HX21 := Lib.hid (show wx21.heap[g7]? = some (.cells (ansI 0 r2) 50 (0, 0)) by rw [← hY]; exact setRow_heap _ _ _ _ _ _ hs7)
     have HNS121 := Lib.hid (show wx21.heap[g14]? = some (.cells (setsCells 0 S1) 26 (0, 0)) by rw [← hY]; exact (setRow_other _ _ _ _ (by omega)).trans hHeld.1)
     have HNS221 := Lib.hid (show wx21.heap[g16]? = some (.cells (setsCells 0 S2) 26 (0, 0)) by rw [← hY]; exact (setRow_other _ _ _ _ (by omega)).trans hHeld.2.1)
     have HNS021 := Lib.hid (show wx21.heap[g18]? = some (.cells (setsCells 0 S0) 26 (0, 0)) by rw [← hY]; exact (setRow_other _ _ _ _ (by omega)).trans hHeld.2.2.1)
     have HNT21 := Lib.hid (show wx21.heap[w.heap.size + 1]? = some (.cells #[.int .i64 sec, .int .i64 nano] 50 (0, 0)) by rw [← hY]; exact (setRow_other _ _ _ _ (by omega)).trans hHeld.2.2.2.1)
     have HNA021 := Lib.hid (show wx21.heap[ga]? = some (.cells (ansI 0 r1) 50 (0, 0)) by rw [← hY]; exact (setRow_other _ _ _ _ (by omega)).trans hHeld.2.2.2.2.1)
     have hBx21 : Below w.heap.size w wx21 := by rw [← hY]; exact below_setRow (below_of_le hBx20 hHeld.2.2.2.2.2) (by omega) _
     clear hY hHeld hs7 hge7 q1 q2 q0 qt qa0 lq1 lq2 lq0 lqt lqa0 HNS120 HNS220 HNS020 HNT20 HX20 hBx20
     obtain ⟨gb, rfl⟩ : ∃ g : Nat, g = g7 := ⟨_, rfl⟩
     go_upto_region 22 with fail
     obtain ⟨wo, rfl⟩ : ∃ wo : World, wo = wx21 := ⟨_, rfl⟩
     have q1 := HNS121.out
     have q2 := HNS221.out
     have q0 := HNS021.out
     have qt := HNT21.out
     have qa0 := HNA021.out
     have qa1 := HX21.out
     refine start_ (n := 10) (S := fun w' => w'.heap[g14]? = some (.cells (setsCells 0 S1) 26 (0, 0)) ∧ w'.heap[g16]? = some (.cells (setsCells 0 S2) 26 (0, 0)) ∧ w'.heap[g18]? = some (.cells (setsCells 0 S0) 26 (0, 0)) ∧ w'.heap[w.heap.size + 1]? = some (.cells #[.int .i64 sec, .int .i64 nano] 50 (0, 0)) ∧ w'.heap[ga]? = some (.cells (ansI 0 r1) 50 (0, 0)) ∧ w'.heap[gb]? = some (.cells (ansI 0 r2) 50 (0, 0)) ∧ Below wo.heap.size wo w') (ds := [8]) #[false, false, false, false, false, false, false, false, false, false] (by kernel_rfl) rfl rfl ⟨q1, q2, q0, qt, qa0, qa1, (Below.refl _ _).drew⟩ (fun hHeld => ?_)
     refine take_ (i := 0) (N := some 128) (v := ?_) (a' := ?_) #[true, false, false, false, false, false, false, false, false, false] rfl rfl (by kernel_rfl) (fun _ _ _ h => h) (Or.inl ⟨by rfl, ?_⟩) hHeld ?_ ?_
     rotate_left
     ·rintro w' ⟨s0, s1, s2, s3, s4, s5, s6⟩
      refine exec_load_row _ _ w' 26 (.tmp 18) ?_ g18 ?_ _ _ _ _ s2 Tryz.underlying26 rfl schedSize
      ·rfl
      ·rfl
     rotate_left
     ·simp only [Act.put, List.setIfInBounds_toArray, List.set_cons_zero, List.set_cons_succ, i64_w, i32_w]
      rfl
     refine take_ (i := 1) (N := some 129) (v := ?_) (a' := ?_) #[true, true, false, false, false, false, false, false, false, false] rfl rfl (by kernel_rfl) (fun _ _ _ h => h) (Or.inl ⟨by rfl, ?_⟩) hHeld ?_ ?_
     rotate_left
     ·rintro w' ⟨s0, s1, s2, s3, s4, s5, s6⟩
      refine exec_load_row _ _ w' 50 (.tmp 4) ?_ (w.heap.size + 1) ?_ _ _ _ _ s3 Tryz.underlying50 rfl instSizeE
      ·rfl
      ·rfl
     rotate_left
     ·simp only [Act.put, List.setIfInBounds_toArray, List.set_cons_zero, List.set_cons_succ, i64_w, i32_w]
      rfl
     refine join_ (σ := Nat) 2 #[true, true, true, true, true, true, true, true, false, false] (fun s => [(130, .agg #[.slice none 0 0, .slice none 0 0, .slice none 0 0, .slice none 0 0]), (131, .tuple #[.agg (ansI 0 r0), .bool r0.isSome]), (127, .tuple #[.agg (ansI 0 r0), .bool r0.isSome]), (132, .agg (ansI 0 r0)), (133, .bool r0.isSome), (24, .pointer (some ⟨s, 0, none⟩))]) (fun s w' => InstRow w' s ∧ wo.heap.size ≤ s ∧ (w'.heap[g14]? = some (.cells (setsCells 0 S1) 26 (0, 0)) ∧ w'.heap[g16]? = some (.cells (setsCells 0 S2) 26 (0, 0)) ∧ w'.heap[g18]? = some (.cells (setsCells 0 S0) 26 (0, 0)) ∧ w'.heap[w.heap.size + 1]? = some (.cells #[.int .i64 sec, .int .i64 nano] 50 (0, 0)) ∧ w'.heap[ga]? = some (.cells (ansI 0 r1) 50 (0, 0)) ∧ w'.heap[gb]? = some (.cells (ansI 0 r2) 50 (0, 0)) ∧ Below wo.heap.size wo w')) ?_ ?_
     rotate_left
     ·intro hCont
      refine two_ (i := 2) (j := 7) (Ni := some 130) (Nj := some 24) #[true, true, true, false, false, false, false, false, false, false] #[true, true, false, false, false, false, false, true, false, false] rfl rfl rfl rfl (by kernel_rfl) (by decide) (by decide) (fun K hK => ?_) (fun K hK => ?_)
      ·skip
       refine goes_ Tryz.func28 (by kernel_rfl) rfl #[] (by rfl) rfl rfl (by simp only [List.map_toArray, List.map_nil]) ?_
       with_reducible refine (HU.out _).mono ?_
       rintro e w4 ⟨rfl, hb4⟩
       refine ⟨_, rfl, ?_⟩
       refine hK.out _ _ ⟨row_keep hHeld.1 hb4, row_keep hHeld.2.1 hb4, row_keep hHeld.2.2.1 hb4, row_keep hHeld.2.2.2.1 hb4, row_keep hHeld.2.2.2.2.1 hb4, row_keep hHeld.2.2.2.2.2.1 hb4, below_le hHeld.2.2.2.2.2.2 hb4⟩ (fun hHeld => ?_)
       clear hK K
       refine norm_ (a' := ?_) ?_ ?_
       rotate_left
       ·show Act.put _ (some 130) _ = _
        simp only [Act.put, List.setIfInBounds_toArray, List.set_cons_zero, List.set_cons_succ, i64_w, i32_w]
        rfl
       refine two_ (i := 3) (j := 7) (Ni := some 131) (Nj := some 24) #[true, true, true, true, false, false, false, false, false, false] #[true, true, true, false, false, false, false, true, false, false] rfl rfl rfl rfl (by kernel_rfl) (by decide) (by decide) (fun K hK => ?_) (fun K hK => ?_)
       ·skip
        refine goes_ Tryz.func27 (by kernel_rfl) rfl #[.agg (setsCells 0 S0), .agg #[.int .i64 sec, .int .i64 nano], .agg #[.slice none 0 0, .slice none 0 0, .slice none 0 0, .slice none 0 0]] (by rfl) rfl rfl (by simp only [List.map_toArray, List.map_cons, List.map_nil]; rfl) ?_
        with_reducible refine (HN0.out _).mono ?_
        rintro e w5 ⟨rfl, hb5⟩
        refine ⟨_, rfl, ?_⟩
        refine hK.out _ _ ⟨row_keep hHeld.1 hb5, row_keep hHeld.2.1 hb5, row_keep hHeld.2.2.1 hb5, row_keep hHeld.2.2.2.1 hb5, row_keep hHeld.2.2.2.2.1 hb5, row_keep hHeld.2.2.2.2.2.1 hb5, below_le hHeld.2.2.2.2.2.2 hb5⟩ (fun hHeld => ?_)
        clear hK K
        refine norm_ (a' := ?_) ?_ ?_
        rotate_left
        ·show Act.put _ (some 131) _ = _
         simp only [Act.put, List.setIfInBounds_toArray, List.set_cons_zero, List.set_cons_succ, i64_w, i32_w]
         rfl
        refine pure_ (i := 4) (N := some 127) (v := ?_) (a' := ?_) #[true, true, true, true, true, false, false, false, false, false] rfl rfl (by kernel_rfl) (fun _ _ _ h => h) (Or.inl ⟨by rfl, ?_⟩) ?_ ?_
        rotate_left
        ·intro w'
         go_simp
         with_reducible rfl
        rotate_left
        ·simp only [Act.put, List.setIfInBounds_toArray, List.set_cons_zero, List.set_cons_succ, i64_w, i32_w]
         rfl
        refine pure_ (i := 5) (N := some 132) (v := ?_) (a' := ?_) #[true, true, true, true, true, true, false, false, false, false] rfl rfl (by kernel_rfl) (fun _ _ _ h => h) (Or.inl ⟨by rfl, ?_⟩) ?_ ?_
        rotate_left
        ·intro w'
         go_simp
         with_reducible rfl
        rotate_left
        ·simp only [Act.put, List.setIfInBounds_toArray, List.set_cons_zero, List.set_cons_succ, i64_w, i32_w]
         rfl
        refine pure_ (i := 6) (N := some 133) (v := ?_) (a' := ?_) #[true, true, true, true, true, true, true, false, false, false] rfl rfl (by kernel_rfl) (fun _ _ _ h => h) (Or.inl ⟨by rfl, ?_⟩) ?_ ?_
        rotate_left
        ·intro w'
         go_simp
         with_reducible rfl
        rotate_left
        ·simp only [Act.put, List.setIfInBounds_toArray, List.set_cons_zero, List.set_cons_succ, i64_w, i32_w]
         rfl
        refine one_ (i := 7) (N := some 24) #[true, true, true, true, true, true, true, true, false, false] rfl rfl (by kernel_rfl) (by decide) (fun K hK => ?_)
        have hge7 := hHeld.2.2.2.2.2.2.size
        have hs7 := instRow_of hHeld.2.2.2.2.2.2
        refine value_ (by rfl) rfl (exec_alloc_inst _ _ _ rfl) ?_
        refine hK.out _ _ ⟨row_new hHeld.1, row_new hHeld.2.1, row_new hHeld.2.2.1, row_new hHeld.2.2.2.1, row_new hHeld.2.2.2.2.1, row_new hHeld.2.2.2.2.2.1, hHeld.2.2.2.2.2.2.alloc hHeld.2.2.2.2.2.2.size _⟩ (fun hHeld => ?_)
        clear hK K
        refine norm_ (a' := ?_) ?_ ?_
        rotate_left
        ·show Act.put _ (some 24) _ = _
         simp only [Act.put, List.setIfInBounds_toArray, List.set_cons_zero, List.set_cons_succ, i64_w, i32_w]
         rfl
        exact norm_ (by simp only [putAll, Act.put, List.setIfInBounds_toArray, List.set_cons_zero, List.set_cons_succ]) (hCont w5.heap.size _ ⟨hs7, hge7, hHeld⟩)
       ·skip
        have hge7 := hHeld.2.2.2.2.2.2.size
        have hs7 := instRow_of hHeld.2.2.2.2.2.2
        refine value_ (by rfl) rfl (exec_alloc_inst _ _ _ rfl) ?_
        refine hK.out _ _ ⟨row_new hHeld.1, row_new hHeld.2.1, row_new hHeld.2.2.1, row_new hHeld.2.2.2.1, row_new hHeld.2.2.2.2.1, row_new hHeld.2.2.2.2.2.1, hHeld.2.2.2.2.2.2.alloc hHeld.2.2.2.2.2.2.size _⟩ (fun hHeld => ?_)
        clear hK K
        refine norm_ (a' := ?_) ?_ ?_
        rotate_left
        ·show Act.put _ (some 24) _ = _
         simp only [Act.put, List.setIfInBounds_toArray, List.set_cons_zero, List.set_cons_succ, i64_w, i32_w]
         rfl
        refine one_ (i := 3) (N := some 131) #[true, true, true, true, false, false, false, true, false, false] rfl rfl (by kernel_rfl) (by decide) (fun K hK => ?_)
        refine goes_ Tryz.func27 (by kernel_rfl) rfl #[.agg (setsCells 0 S0), .agg #[.int .i64 sec, .int .i64 nano], .agg #[.slice none 0 0, .slice none 0 0, .slice none 0 0, .slice none 0 0]] (by rfl) rfl rfl (by simp only [List.map_toArray, List.map_cons, List.map_nil]; rfl) ?_
        with_reducible refine (HN0.out _).mono ?_
        rintro e w5 ⟨rfl, hb5⟩
        refine ⟨_, rfl, ?_⟩
        refine hK.out _ _ ⟨row_keep hHeld.1 hb5, row_keep hHeld.2.1 hb5, row_keep hHeld.2.2.1 hb5, row_keep hHeld.2.2.2.1 hb5, row_keep hHeld.2.2.2.2.1 hb5, row_keep hHeld.2.2.2.2.2.1 hb5, below_le hHeld.2.2.2.2.2.2 hb5⟩ (fun hHeld => ?_)
        clear hK K
        refine norm_ (a' := ?_) ?_ ?_
        rotate_left
        ·show Act.put _ (some 131) _ = _
         simp only [Act.put, List.setIfInBounds_toArray, List.set_cons_zero, List.set_cons_succ, i64_w, i32_w]
         rfl
        refine pure_ (i := 4) (N := some 127) (v := ?_) (a' := ?_) #[true, true, true, true, true, false, false, true, false, false] rfl rfl (by kernel_rfl) (fun _ _ _ h => h) (Or.inl ⟨by rfl, ?_⟩) ?_ ?_
        rotate_left
        ·intro w'
         go_simp
         with_reducible rfl
        rotate_left
        ·simp only [Act.put, List.setIfInBounds_toArray, List.set_cons_zero, List.set_cons_succ, i64_w, i32_w]
         rfl
        refine pure_ (i := 5) (N := some 132) (v := ?_) (a' := ?_) #[true, true, true, true, true, true, false, true, false, false] rfl rfl (by kernel_rfl) (fun _ _ _ h => h) (Or.inl ⟨by rfl, ?_⟩) ?_ ?_
        rotate_left
        ·intro w'
         go_simp
         with_reducible rfl
        rotate_left
        ·simp only [Act.put, List.setIfInBounds_toArray, List.set_cons_zero, List.set_cons_succ, i64_w, i32_w]
         rfl
        refine pure_ (i := 6) (N := some 133) (v := ?_) (a' := ?_) #[true, true, true, true, true, true, true, true, false, false] rfl rfl (by kernel_rfl) (fun _ _ _ h => h) (Or.inl ⟨by rfl, ?_⟩) ?_ ?_
        rotate_left
        ·intro w'
         go_simp
         with_reducible rfl
        rotate_left
        ·simp only [Act.put, List.setIfInBounds_toArray, List.set_cons_zero, List.set_cons_succ, i64_w, i32_w]
         rfl
        exact norm_ (by simp only [putAll, Act.put, List.setIfInBounds_toArray, List.set_cons_zero, List.set_cons_succ]) (hCont w4.heap.size _ ⟨hs7.below hb5, hge7, hHeld⟩)
      ·skip
       have hge7 := hHeld.2.2.2.2.2.2.size
       have hs7 := instRow_of hHeld.2.2.2.2.2.2
       refine value_ (by rfl) rfl (exec_alloc_inst _ _ _ rfl) ?_
       refine hK.out _ _ ⟨row_new hHeld.1, row_new hHeld.2.1, row_new hHeld.2.2.1, row_new hHeld.2.2.2.1, row_new hHeld.2.2.2.2.1, row_new hHeld.2.2.2.2.2.1, hHeld.2.2.2.2.2.2.alloc hHeld.2.2.2.2.2.2.size _⟩ (fun hHeld => ?_)
       clear hK K
       refine norm_ (a' := ?_) ?_ ?_
       rotate_left
       ·show Act.put _ (some 24) _ = _
        simp only [Act.put, List.setIfInBounds_toArray, List.set_cons_zero, List.set_cons_succ, i64_w, i32_w]
        rfl
       refine one_ (i := 2) (N := some 130) #[true, true, true, false, false, false, false, true, false, false] rfl rfl (by kernel_rfl) (by decide) (fun K hK => ?_)
       refine goes_ Tryz.func28 (by kernel_rfl) rfl #[] (by rfl) rfl rfl (by simp only [List.map_toArray, List.map_nil]) ?_
       with_reducible refine (HU.out _).mono ?_
       rintro e w4 ⟨rfl, hb4⟩
       refine ⟨_, rfl, ?_⟩
       refine hK.out _ _ ⟨row_keep hHeld.1 hb4, row_keep hHeld.2.1 hb4, row_keep hHeld.2.2.1 hb4, row_keep hHeld.2.2.2.1 hb4, row_keep hHeld.2.2.2.2.1 hb4, row_keep hHeld.2.2.2.2.2.1 hb4, below_le hHeld.2.2.2.2.2.2 hb4⟩ (fun hHeld => ?_)
       clear hK K
       refine norm_ (a' := ?_) ?_ ?_
       rotate_left
       ·show Act.put _ (some 130) _ = _
        simp only [Act.put, List.setIfInBounds_toArray, List.set_cons_zero, List.set_cons_succ, i64_w, i32_w]
        rfl
       refine one_ (i := 3) (N := some 131) #[true, true, true, true, false, false, false, true, false, false] rfl rfl (by kernel_rfl) (by decide) (fun K hK => ?_)
       refine goes_ Tryz.func27 (by kernel_rfl) rfl #[.agg (setsCells 0 S0), .agg #[.int .i64 sec, .int .i64 nano], .agg #[.slice none 0 0, .slice none 0 0, .slice none 0 0, .slice none 0 0]] (by rfl) rfl rfl (by simp only [List.map_toArray, List.map_cons, List.map_nil]; rfl) ?_
       with_reducible refine (HN0.out _).mono ?_
       rintro e w5 ⟨rfl, hb5⟩
       refine ⟨_, rfl, ?_⟩
       refine hK.out _ _ ⟨row_keep hHeld.1 hb5, row_keep hHeld.2.1 hb5, row_keep hHeld.2.2.1 hb5, row_keep hHeld.2.2.2.1 hb5, row_keep hHeld.2.2.2.2.1 hb5, row_keep hHeld.2.2.2.2.2.1 hb5, below_le hHeld.2.2.2.2.2.2 hb5⟩ (fun hHeld => ?_)
       clear hK K
       refine norm_ (a' := ?_) ?_ ?_
       rotate_left
       ·show Act.put _ (some 131) _ = _
        simp only [Act.put, List.setIfInBounds_toArray, List.set_cons_zero, List.set_cons_succ, i64_w, i32_w]
        rfl
       refine pure_ (i := 4) (N := some 127) (v := ?_) (a' := ?_) #[true, true, true, true, true, false, false, true, false, false] rfl rfl (by kernel_rfl) (fun _ _ _ h => h) (Or.inl ⟨by rfl, ?_⟩) ?_ ?_
       rotate_left
       ·intro w'
        go_simp
        with_reducible rfl
       rotate_left
       ·simp only [Act.put, List.setIfInBounds_toArray, List.set_cons_zero, List.set_cons_succ, i64_w, i32_w]
        rfl
       refine pure_ (i := 5) (N := some 132) (v := ?_) (a' := ?_) #[true, true, true, true, true, true, false, true, false, false] rfl rfl (by kernel_rfl) (fun _ _ _ h => h) (Or.inl ⟨by rfl, ?_⟩) ?_ ?_
       rotate_left
       ·intro w'
        go_simp
        with_reducible rfl
       rotate_left
       ·simp only [Act.put, List.setIfInBounds_toArray, List.set_cons_zero, List.set_cons_succ, i64_w, i32_w]
        rfl
       refine pure_ (i := 6) (N := some 133) (v := ?_) (a' := ?_) #[true, true, true, true, true, true, true, true, false, false] rfl rfl (by kernel_rfl) (fun _ _ _ h => h) (Or.inl ⟨by rfl, ?_⟩) ?_ ?_
       rotate_left
       ·intro w'
        go_simp
        with_reducible rfl
       rotate_left
       ·simp only [Act.put, List.setIfInBounds_toArray, List.set_cons_zero, List.set_cons_succ, i64_w, i32_w]
        rfl
       exact norm_ (by simp only [putAll, Act.put, List.setIfInBounds_toArray, List.set_cons_zero, List.set_cons_succ]) (hCont wo.drew.heap.size _ ⟨(hs7.below hb4).below hb5, hge7, hHeld⟩)
     rintro g7 w5 ⟨hs7, hge7, hHeld⟩
     refine norm_ (a' := ?_) ?_ ?_
     rotate_left
     ·simp only [putAll, Act.put, List.setIfInBounds_toArray, List.set_cons_zero, List.set_cons_succ]
      rfl
     refine last_ (i := 8) (N := none) #[true, true, true, true, true, true, true, true, true, false] rfl rfl (by kernel_rfl) (by decide) (fun K hK => ?_)
     rw [if_pos (by rfl)]
     refine wp_store_row 50 _ _ rfl g7 (ansI 0 r0) rfl rfl 50 instZ hs7 (by rw [ansI_size]; exact instSizeE) (by rw [ansI_size]; rfl) (ansI_one 0 r0) ?_
     go_simp
     refine hK.out _ _ ?_
     clear hK K
     refine pure_ (i := 9) (N := some 25) (v := ?_) (a' := ?_) #[true, true, true, true, true, true, true, true, true, true] rfl rfl (by kernel_rfl) (fun _ _ _ h => h) (Or.inl ⟨by rfl, ?_⟩) ?_ ?_
     rotate_left
     ·intro w'
      go_simp
      with_reducible rfl
     rotate_left
     ·simp only [Act.put, List.setIfInBounds_toArray, List.set_cons_zero, List.set_cons_succ, i64_w, i32_w]
      rfl
     refine done_ (by kernel_rfl) ?_
     have lq1 := row_lt q1
     have lq2 := row_lt q2
     have lq0 := row_lt q0
     have lqt := row_lt qt
     have lqa0 := row_lt qa0
     have lqa1 := row_lt qa1
     generalize hY : World.setRow _ _ _ = wx22
     have HX22 := Lib.hid (show wx22.heap[g7]? = some (.cells (ansI 0 r0) 50 (0, 0)) by rw [← hY]; exact setRow_heap _ _ _ _ _ _ hs7)
     have HNS122 := Lib.hid (show wx22.heap[g14]? = some (.cells (setsCells 0 S1) 26 (0, 0)) by rw [← hY]; exact (setRow_other _ _ _ _ (by omega)).trans hHeld.1)
     have HNS222 := Lib.hid (show wx22.heap[g16]? = some (.cells (setsCells 0 S2) 26 (0, 0)) by rw [← hY]; exact (setRow_other _ _ _ _ (by omega)).trans hHeld.2.1)
     have HNS022 := Lib.hid (show wx22.heap[g18]? = some (.cells (setsCells 0 S0) 26 (0, 0)) by rw [← hY]; exact (setRow_other _ _ _ _ (by omega)).trans hHeld.2.2.1)
     have HNT22 := Lib.hid (show wx22.heap[w.heap.size + 1]? = some (.cells #[.int .i64 sec, .int .i64 nano] 50 (0, 0)) by rw [← hY]; exact (setRow_other _ _ _ _ (by omega)).trans hHeld.2.2.2.1)
     have HNA022 := Lib.hid (show wx22.heap[ga]? = some (.cells (ansI 0 r1) 50 (0, 0)) by rw [← hY]; exact (setRow_other _ _ _ _ (by omega)).trans hHeld.2.2.2.2.1)
     have HNA122 := Lib.hid (show wx22.heap[gb]? = some (.cells (ansI 0 r2) 50 (0, 0)) by rw [← hY]; exact (setRow_other _ _ _ _ (by omega)).trans hHeld.2.2.2.2.2.1)
     have hBx22 : Below w.heap.size w wx22 := by rw [← hY]; exact below_setRow (below_of_le hBx21 hHeld.2.2.2.2.2.2) (by omega) _
     clear hY hHeld hs7 hge7 q1 q2 q0 qt qa0 qa1 lq1 lq2 lq0 lqt lqa0 lqa1 HNS121 HNS221 HNS021 HNT21 HNA021 HX21 hBx21
     obtain ⟨gc, rfl⟩ : ∃ g : Nat, g = g7 := ⟨_, rfl⟩
     clear HN1 HN2 HN0
     generalize hi1 : r1.isSome = is1 at *
     generalize hi2 : r2.isSome = is2 at *
     go_wp2_with (first
      | (refine wpList_load_rowG (by rfl) 50 _ rfl ga rfl _ _ _ _ HNA022.out Tryz.underlying50 rfl (by rw [ansI_size]; exact instSizeE) ?_)
      | (refine wpList_load_rowG (by rfl) 50 _ rfl gb rfl _ _ _ _ HNA122.out Tryz.underlying50 rfl (by rw [ansI_size]; exact instSizeE) ?_))
     refine (HER.out _).mono ?_
     rintro e w8 ⟨rfl, hb8⟩
     have HC8 := Lib.hid (row_keep HX22.out hb8)
     have HS8 := Lib.hid (row_keep HNS022.out hb8)
     have HT8 := Lib.hid (row_keep HNT22.out hb8)
     have hB8 := below_of_le hBx22 hb8
     clear hb8 HNS122 HNS222 HNS022 HNT22 HNA022 HNA122 HX22 hBx22 HER
     try dsimp only
     go_upto_region 24 with (go_big_may; refine wpList_store_row rfl 50 _ _ rfl w8.heap.size (ansI 0 r0) rfl rfl 50 _ (heap_alloc_new w8 _) (by rw [ansI_size]; exact instSizeE) (by rw [ansI_size]; rfl) (ansI_one 0 r0) ?_)
     try dsimp only [Act.put]
     generalize hY : World.setRow _ _ _ = wo
     have HD9 := Lib.hid (show wo.heap[w8.heap.size]? = some (.cells (ansI 0 r0) 50 (0, 0)) by rw [← hY]; exact setRow_heap _ _ _ _ _ _ (heap_alloc_new w8 _))
     have hbs : Below w8.heap.size w8 wo := by rw [← hY]; exact below_setRow ((Below.refl _ _).alloc (Nat.le_refl _) _) (Nat.le_refl _) _
     clear hY
     have HC9 := Lib.hid (row_keep HC8.out hbs)
     have HS9 := Lib.hid (row_keep HS8.out hbs)
     have HT9 := Lib.hid (row_keep HT8.out hbs)
     have hB9 := below_of_le hB8 hbs
     clear hbs HC8 HS8 HT8 hB8
     generalize w8.heap.size = gd at *
     have qc := HC9.out
     have qd := HD9.out
     have q0 := HS9.out
     have qt := HT9.out
     cases r0 with
     | none =>
      dsimp only [Option.isSome]
      refine start_ (n := 18) (S := fun w' => w'.heap[gc]? = some (.cells (ansI 0 none) 50 (0, 0)) ∧ w'.heap[gd]? = some (.cells (ansI 0 none) 50 (0, 0)) ∧ w'.heap[g18]? = some (.cells (setsCells 0 S0) 26 (0, 0)) ∧ w'.heap[w.heap.size + 1]? = some (.cells #[.int .i64 sec, .int .i64 nano] 50 (0, 0)) ∧ Below wo.heap.size wo w') (ds := []) #[false, false, false, false, false, false, false, false, false, false, false, false, false, false, false, false, false, false] (by kernel_rfl) rfl rfl ⟨qc, qd, q0, qt, (Below.refl _ _).drew⟩ (fun hHeld => ?_)
      refine pure_ (i := 0) (N := some 142) (v := ?_) (a' := ?_) #[true, false, false, false, false, false, false, false, false, false, false, false, false, false, false, false, false, false] rfl rfl (by kernel_rfl) (fun _ _ _ h => h) (Or.inl ⟨by rfl, ?_⟩) ?_ ?_
      rotate_left
      ·intro w'
       go_simp
       with_reducible rfl
      rotate_left
      ·simp only [Act.put, List.setIfInBounds_toArray, List.set_cons_zero, List.set_cons_succ, i64_w, i32_w]
       rfl
      refine pure_ (i := 1) (N := some 143) (v := ?_) (a' := ?_) #[true, true, false, false, false, false, false, false, false, false, false, false, false, false, false, false, false, false] rfl rfl (by kernel_rfl) (fun _ _ _ h => h) (Or.inl ⟨by rfl, ?_⟩) ?_ ?_
      rotate_left
      ·intro w'
       go_simp
       with_reducible rfl
      rotate_left
      ·simp only [Act.put, List.setIfInBounds_toArray, List.set_cons_zero, List.set_cons_succ, i64_w, i32_w]
       rfl
      refine pure_ (i := 2) (N := some 144) (v := ?_) (a' := ?_) #[true, true, true, false, false, false, false, false, false, false, false, false, false, false, false, false, false, false] rfl rfl (by kernel_rfl) (fun _ _ _ h => h) (Or.inl ⟨by rfl, ?_⟩) ?_ ?_
      rotate_left
      ·intro w'
       go_simp
       with_reducible rfl
      rotate_left
      ·simp only [Act.put, List.setIfInBounds_toArray, List.set_cons_zero, List.set_cons_succ, i64_w, i32_w]
       rfl
      refine pure_ (i := 3) (N := some 145) (v := ?_) (a' := ?_) #[true, true, true, true, false, false, false, false, false, false, false, false, false, false, false, false, false, false] rfl rfl (by kernel_rfl) (fun _ _ _ h => h) (Or.inl ⟨by rfl, ?_⟩) ?_ ?_
      rotate_left
      ·intro w'
       go_simp
       with_reducible rfl
      rotate_left
      ·simp only [Act.put, List.setIfInBounds_toArray, List.set_cons_zero, List.set_cons_succ, i64_w, i32_w]
       rfl
      refine take_ (i := 4) (N := some 146) (v := ?_) (a' := ?_) #[true, true, true, true, true, false, false, false, false, false, false, false, false, false, false, false, false, false] rfl rfl (by kernel_rfl) (fun _ _ _ h => h) (Or.inl ⟨by rfl, ?_⟩) hHeld ?_ ?_
      rotate_left
      ·rintro w' ⟨s0, s1, s2, s3, s4⟩
       refine exec_load_row _ _ w' 50 (.tmp 24) ?_ gc ?_ _ _ _ _ s0 Tryz.underlying50 rfl (by rw [ansI_size]; exact instSizeE)
       ·rfl
       ·rfl
      rotate_left
      ·simp only [Act.put, List.setIfInBounds_toArray, List.set_cons_zero, List.set_cons_succ, i64_w, i32_w]
       rfl
      refine take_ (i := 5) (N := some 147) (v := ?_) (a' := ?_) #[true, true, true, true, true, true, false, false, false, false, false, false, false, false, false, false, false, false] rfl rfl (by kernel_rfl) (fun _ _ _ h => h) (Or.inl ⟨by rfl, ?_⟩) hHeld ?_ ?_
      rotate_left
      ·rintro w' ⟨s0, s1, s2, s3, s4⟩
       refine exec_load_row _ _ w' 50 (.tmp 26) ?_ gd ?_ _ _ _ _ s1 Tryz.underlying50 rfl (by rw [ansI_size]; exact instSizeE)
       ·rfl
       ·rfl
      rotate_left
      ·simp only [Act.put, List.setIfInBounds_toArray, List.set_cons_zero, List.set_cons_succ, i64_w, i32_w]
       rfl
      refine pure_ (i := 6) (N := some 148) (v := ?_) (a' := ?_) #[true, true, true, true, true, true, true, false, false, false, false, false, false, false, false, false, false, false] rfl rfl (by kernel_rfl) (fun _ _ _ h => h) (Or.inl ⟨by rfl, ?_⟩) ?_ ?_
      rotate_left
      ·intro w'
       go_simp
       with_reducible rfl
      rotate_left
      ·simp only [Act.put, List.setIfInBounds_toArray, List.set_cons_zero, List.set_cons_succ, i64_w, i32_w]
       rfl
      refine pure_ (i := 7) (N := some 149) (v := ?_) (a' := ?_) #[true, true, true, true, true, true, true, true, false, false, false, false, false, false, false, false, false, false] rfl rfl (by kernel_rfl) (fun _ _ _ h => h) (Or.inl ⟨by rfl, ?_⟩) ?_ ?_
      rotate_left
      ·intro w'
       go_simp
       with_reducible rfl
      rotate_left
      ·simp only [Act.put, List.setIfInBounds_toArray, List.set_cons_zero, List.set_cons_succ, i64_w, i32_w]
       rfl
      refine pure_ (i := 8) (N := some 150) (v := ?_) (a' := ?_) #[true, true, true, true, true, true, true, true, true, false, false, false, false, false, false, false, false, false] rfl rfl (by kernel_rfl) (fun _ _ _ h => h) (Or.inl ⟨by rfl, ?_⟩) ?_ ?_
      rotate_left
      ·intro w'
       go_simp
       with_reducible rfl
      rotate_left
      ·simp only [Act.put, List.setIfInBounds_toArray, List.set_cons_zero, List.set_cons_succ, i64_w, i32_w]
       rfl
      refine pure_ (i := 9) (N := some 151) (v := ?_) (a' := ?_) #[true, true, true, true, true, true, true, true, true, true, false, false, false, false, false, false, false, false] rfl rfl (by kernel_rfl) (fun _ _ _ h => h) (Or.inl ⟨by rfl, ?_⟩) ?_ ?_
      rotate_left
      ·intro w'
       go_simp
       with_reducible rfl
      rotate_left
      ·simp only [Act.put, List.setIfInBounds_toArray, List.set_cons_zero, List.set_cons_succ, i64_w, i32_w]
       rfl
      refine pure_ (i := 10) (N := some 152) (v := ?_) (a' := ?_) #[true, true, true, true, true, true, true, true, true, true, true, false, false, false, false, false, false, false] rfl rfl (by kernel_rfl) (fun _ _ _ h => h) (Or.inl ⟨by rfl, ?_⟩) ?_ ?_
      rotate_left
      ·intro w'
       go_simp
       with_reducible rfl
      rotate_left
      ·simp only [Act.put, List.setIfInBounds_toArray, List.set_cons_zero, List.set_cons_succ, i64_w, i32_w]
       rfl
      refine take_ (i := 11) (N := some 153) (v := ?_) (a' := ?_) #[true, true, true, true, true, true, true, true, true, true, true, true, false, false, false, false, false, false] rfl rfl (by kernel_rfl) (fun _ _ _ h => h) (Or.inl ⟨by rfl, ?_⟩) hHeld ?_ ?_
      rotate_left
      ·rintro w' ⟨s0, s1, s2, s3, s4⟩
       refine exec_load_row _ _ w' 26 (.tmp 18) ?_ g18 ?_ _ _ _ _ s2 Tryz.underlying26 rfl schedSize
       ·rfl
       ·rfl
      rotate_left
      ·simp only [Act.put, List.setIfInBounds_toArray, List.set_cons_zero, List.set_cons_succ, i64_w, i32_w]
       rfl
      refine take_ (i := 12) (N := some 154) (v := ?_) (a' := ?_) #[true, true, true, true, true, true, true, true, true, true, true, true, true, false, false, false, false, false] rfl rfl (by kernel_rfl) (fun _ _ _ h => h) (Or.inl ⟨by rfl, ?_⟩) hHeld ?_ ?_
      rotate_left
      ·rintro w' ⟨s0, s1, s2, s3, s4⟩
       refine exec_load_row _ _ w' 50 (.tmp 4) ?_ (w.heap.size + 1) ?_ _ _ _ _ s3 Tryz.underlying50 rfl instSizeE
       ·rfl
       ·rfl
      rotate_left
      ·simp only [Act.put, List.setIfInBounds_toArray, List.set_cons_zero, List.set_cons_succ, i64_w, i32_w]
       rfl
      refine one_ (i := 13) (N := some 155) #[true, true, true, true, true, true, true, true, true, true, true, true, true, true, false, false, false, false] rfl rfl (by kernel_rfl) (by decide) (fun K hK => ?_)
      refine goes_ Tryz.func28 (by kernel_rfl) rfl #[] (by rfl) rfl rfl (by simp only [List.map_toArray, List.map_nil]) ?_
      with_reducible refine (HU.out _).mono ?_
      rintro e13 x13 ⟨rfl, hb13⟩
      refine ⟨_, rfl, ?_⟩
      refine hK.out _ _ ⟨row_keep hHeld.1 hb13, row_keep hHeld.2.1 hb13, row_keep hHeld.2.2.1 hb13, row_keep hHeld.2.2.2.1 hb13, below_of_le hHeld.2.2.2.2 hb13⟩ (fun hHeld => ?_)
      clear hK K
      refine norm_ (a' := ?_) ?_ ?_
      rotate_left
      ·show Act.put _ (some 155) _ = _
       simp only [Act.put, List.setIfInBounds_toArray, List.set_cons_zero, List.set_cons_succ, i64_w, i32_w]
       rfl
      refine one_ (i := 14) (N := some 156) #[true, true, true, true, true, true, true, true, true, true, true, true, true, true, true, false, false, false] rfl rfl (by kernel_rfl) (by decide) (fun K hK => ?_)
      refine goes_ Tryz.func30 (by kernel_rfl) rfl #[.agg (setsCells 0 S0), .agg #[.int .i64 sec, .int .i64 nano], .agg #[.slice none 0 0, .slice none 0 0, .slice none 0 0, .slice none 0 0]] (by rfl) rfl rfl (by simp only [List.map_toArray, List.map_cons, List.map_nil]; rfl) ?_
      with_reducible refine (HNN.out _).mono ?_
      rintro e14 x14 ⟨⟨b, rfl, hbn⟩, hb14⟩
      refine ⟨_, rfl, ?_⟩
      refine hK.out _ _ ⟨row_keep hHeld.1 hb14, row_keep hHeld.2.1 hb14, row_keep hHeld.2.2.1 hb14, row_keep hHeld.2.2.2.1 hb14, below_of_le hHeld.2.2.2.2 hb14⟩ (fun hHeld => ?_)
      clear hK K
      refine norm_ (a' := ?_) ?_ ?_
      rotate_left
      ·show Act.put _ (some 156) _ = _
       simp only [Act.put, List.setIfInBounds_toArray, List.set_cons_zero, List.set_cons_succ, i64_w, i32_w]
       rfl
      refine pure_ (i := 15) (N := some 157) (v := ?_) (a' := ?_) #[true, true, true, true, true, true, true, true, true, true, true, true, true, true, true, true, false, false] rfl rfl (by kernel_rfl) (fun _ _ _ h => h) (Or.inl ⟨by rfl, ?_⟩) ?_ ?_
      rotate_left
      ·intro w'
       go_simp
       with_reducible rfl
      rotate_left
      ·simp only [Act.put, List.setIfInBounds_toArray, List.set_cons_zero, List.set_cons_succ, i64_w, i32_w]
       rfl
      refine pure_ (i := 16) (N := some 158) (v := ?_) (a' := ?_) #[true, true, true, true, true, true, true, true, true, true, true, true, true, true, true, true, true, false] rfl rfl (by kernel_rfl) (fun _ _ _ h => h) (Or.inl ⟨by rfl, ?_⟩) ?_ ?_
      rotate_left
      ·intro w'
       go_simp
       with_reducible rfl
      rotate_left
      ·simp only [Act.put, List.setIfInBounds_toArray, List.set_cons_zero, List.set_cons_succ, i64_w, i32_w]
       rfl
      refine pure_ (i := 17) (N := some 6) (v := ?_) (a' := ?_) #[true, true, true, true, true, true, true, true, true, true, true, true, true, true, true, true, true, true] rfl rfl (by kernel_rfl) (fun _ _ _ h => h) (Or.inl ⟨by rfl, ?_⟩) ?_ ?_
      rotate_left
      ·intro w'
       go_simp
       with_reducible rfl
      rotate_left
      ·simp only [Act.put, List.setIfInBounds_toArray, List.set_cons_zero, List.set_cons_succ, i64_w, i32_w]
       rfl
      refine done_ (by kernel_rfl) ?_
      obtain rfl : b = true := by
       cases b with
       | true => rfl
       | false =>
        obtain ⟨y, y1, y2, y3⟩ := hbn rfl
        exact absurd y3 (HRL.out y y1 y2)
      go_wp2_with fail
      go_ret
      exact ⟨rfl, below_of_le hB9 hHeld.2.2.2.2⟩
     | some L =>
      dsimp only [Option.isSome]
      refine start_ (n := 18) (S := fun w' => w'.heap[gc]? = some (.cells (ansI 0 (some L)) 50 (0, 0)) ∧ w'.heap[gd]? = some (.cells (ansI 0 (some L)) 50 (0, 0)) ∧ w'.heap[g18]? = some (.cells (setsCells 0 S0) 26 (0, 0)) ∧ w'.heap[w.heap.size + 1]? = some (.cells #[.int .i64 sec, .int .i64 nano] 50 (0, 0)) ∧ Below wo.heap.size wo w') (ds := []) #[false, false, false, false, false, false, false, false, false, false, false, false, false, false, false, false, false, false] (by kernel_rfl) rfl rfl ⟨qc, qd, q0, qt, (Below.refl _ _).drew⟩ (fun hHeld => ?_)
      refine pure_ (i := 0) (N := some 142) (v := ?_) (a' := ?_) #[true, false, false, false, false, false, false, false, false, false, false, false, false, false, false, false, false, false] rfl rfl (by kernel_rfl) (fun _ _ _ h => h) (Or.inl ⟨by rfl, ?_⟩) ?_ ?_
      rotate_left
      ·intro w'
       go_simp
       with_reducible rfl
      rotate_left
      ·simp only [Act.put, List.setIfInBounds_toArray, List.set_cons_zero, List.set_cons_succ, i64_w, i32_w]
       rfl
      refine pure_ (i := 1) (N := some 143) (v := ?_) (a' := ?_) #[true, true, false, false, false, false, false, false, false, false, false, false, false, false, false, false, false, false] rfl rfl (by kernel_rfl) (fun _ _ _ h => h) (Or.inl ⟨by rfl, ?_⟩) ?_ ?_
      rotate_left
      ·intro w'
       go_simp
       with_reducible rfl
      rotate_left
      ·simp only [Act.put, List.setIfInBounds_toArray, List.set_cons_zero, List.set_cons_succ, i64_w, i32_w]
       rfl
      refine pure_ (i := 2) (N := some 144) (v := ?_) (a' := ?_) #[true, true, true, false, false, false, false, false, false, false, false, false, false, false, false, false, false, false] rfl rfl (by kernel_rfl) (fun _ _ _ h => h) (Or.inl ⟨by rfl, ?_⟩) ?_ ?_
      rotate_left
      ·intro w'
       go_simp
       with_reducible rfl
      rotate_left
      ·simp only [Act.put, List.setIfInBounds_toArray, List.set_cons_zero, List.set_cons_succ, i64_w, i32_w]
       rfl
      refine pure_ (i := 3) (N := some 145) (v := ?_) (a' := ?_) #[true, true, true, true, false, false, false, false, false, false, false, false, false, false, false, false, false, false] rfl rfl (by kernel_rfl) (fun _ _ _ h => h) (Or.inl ⟨by rfl, ?_⟩) ?_ ?_
      rotate_left
      ·intro w'
       go_simp
       with_reducible rfl
      rotate_left
      ·simp only [Act.put, List.setIfInBounds_toArray, List.set_cons_zero, List.set_cons_succ, i64_w, i32_w]
       rfl
      refine take_ (i := 4) (N := some 146) (v := ?_) (a' := ?_) #[true, true, true, true, true, false, false, false, false, false, false, false, false, false, false, false, false, false] rfl rfl (by kernel_rfl) (fun _ _ _ h => h) (Or.inl ⟨by rfl, ?_⟩) hHeld ?_ ?_
      rotate_left
      ·rintro w' ⟨s0, s1, s2, s3, s4⟩
       refine exec_load_row _ _ w' 50 (.tmp 24) ?_ gc ?_ _ _ _ _ s0 Tryz.underlying50 rfl (by rw [ansI_size]; exact instSizeE)
       ·rfl
       ·rfl
      rotate_left
      ·simp only [Act.put, List.setIfInBounds_toArray, List.set_cons_zero, List.set_cons_succ, i64_w, i32_w]
       rfl
      refine take_ (i := 5) (N := some 147) (v := ?_) (a' := ?_) #[true, true, true, true, true, true, false, false, false, false, false, false, false, false, false, false, false, false] rfl rfl (by kernel_rfl) (fun _ _ _ h => h) (Or.inl ⟨by rfl, ?_⟩) hHeld ?_ ?_
      rotate_left
      ·rintro w' ⟨s0, s1, s2, s3, s4⟩
       refine exec_load_row _ _ w' 50 (.tmp 26) ?_ gd ?_ _ _ _ _ s1 Tryz.underlying50 rfl (by rw [ansI_size]; exact instSizeE)
       ·rfl
       ·rfl
      rotate_left
      ·simp only [Act.put, List.setIfInBounds_toArray, List.set_cons_zero, List.set_cons_succ, i64_w, i32_w]
       rfl
      refine pure_ (i := 6) (N := some 148) (v := ?_) (a' := ?_) #[true, true, true, true, true, true, true, false, false, false, false, false, false, false, false, false, false, false] rfl rfl (by kernel_rfl) (fun _ _ _ h => h) (Or.inl ⟨by rfl, ?_⟩) ?_ ?_
      rotate_left
      ·intro w'
       go_simp
       with_reducible rfl
      rotate_left
      ·simp only [Act.put, List.setIfInBounds_toArray, List.set_cons_zero, List.set_cons_succ, i64_w, i32_w]
       rfl
      refine pure_ (i := 7) (N := some 149) (v := ?_) (a' := ?_) #[true, true, true, true, true, true, true, true, false, false, false, false, false, false, false, false, false, false] rfl rfl (by kernel_rfl) (fun _ _ _ h => h) (Or.inl ⟨by rfl, ?_⟩) ?_ ?_
      rotate_left
      ·intro w'
       go_simp
       with_reducible rfl
      rotate_left
      ·simp only [Act.put, List.setIfInBounds_toArray, List.set_cons_zero, List.set_cons_succ, i64_w, i32_w]
       rfl
      refine pure_ (i := 8) (N := some 150) (v := ?_) (a' := ?_) #[true, true, true, true, true, true, true, true, true, false, false, false, false, false, false, false, false, false] rfl rfl (by kernel_rfl) (fun _ _ _ h => h) (Or.inl ⟨by rfl, ?_⟩) ?_ ?_
      rotate_left
      ·intro w'
       go_simp
       with_reducible rfl
      rotate_left
      ·simp only [Act.put, List.setIfInBounds_toArray, List.set_cons_zero, List.set_cons_succ, i64_w, i32_w]
       rfl
      refine pure_ (i := 9) (N := some 151) (v := ?_) (a' := ?_) #[true, true, true, true, true, true, true, true, true, true, false, false, false, false, false, false, false, false] rfl rfl (by kernel_rfl) (fun _ _ _ h => h) (Or.inl ⟨by rfl, ?_⟩) ?_ ?_
      rotate_left
      ·intro w'
       go_simp
       with_reducible rfl
      rotate_left
      ·simp only [Act.put, List.setIfInBounds_toArray, List.set_cons_zero, List.set_cons_succ, i64_w, i32_w]
       rfl
      refine pure_ (i := 10) (N := some 152) (v := ?_) (a' := ?_) #[true, true, true, true, true, true, true, true, true, true, true, false, false, false, false, false, false, false] rfl rfl (by kernel_rfl) (fun _ _ _ h => h) (Or.inl ⟨by rfl, ?_⟩) ?_ ?_
      rotate_left
      ·intro w'
       go_simp
       with_reducible rfl
      rotate_left
      ·simp only [Act.put, List.setIfInBounds_toArray, List.set_cons_zero, List.set_cons_succ, i64_w, i32_w]
       rfl
      refine pure_ (i := 11) (N := some 153) (v := undef) (a' := ?_) #[true, true, true, true, true, true, true, true, true, true, true, true, false, false, false, false, false, false] rfl rfl (by kernel_rfl) (fun _ _ _ h => h) (Or.inr ⟨by rfl, rfl⟩) ?_ ?_
      rotate_left
      ·simp only [Act.put, List.setIfInBounds_toArray, List.set_cons_zero, List.set_cons_succ, i64_w, i32_w]
       rfl
      refine pure_ (i := 12) (N := some 154) (v := undef) (a' := ?_) #[true, true, true, true, true, true, true, true, true, true, true, true, true, false, false, false, false, false] rfl rfl (by kernel_rfl) (fun _ _ _ h => h) (Or.inr ⟨by rfl, rfl⟩) ?_ ?_
      rotate_left
      ·simp only [Act.put, List.setIfInBounds_toArray, List.set_cons_zero, List.set_cons_succ, i64_w, i32_w]
       rfl
      refine pure_ (i := 13) (N := some 155) (v := undef) (a' := ?_) #[true, true, true, true, true, true, true, true, true, true, true, true, true, true, false, false, false, false] rfl rfl (by kernel_rfl) (fun _ _ _ h => h) (Or.inr ⟨by rfl, rfl⟩) ?_ ?_
      rotate_left
      ·simp only [Act.put, List.setIfInBounds_toArray, List.set_cons_zero, List.set_cons_succ, i64_w, i32_w]
       rfl
      refine pure_ (i := 14) (N := some 156) (v := undef) (a' := ?_) #[true, true, true, true, true, true, true, true, true, true, true, true, true, true, true, false, false, false] rfl rfl (by kernel_rfl) (fun _ _ _ h => h) (Or.inr ⟨by rfl, rfl⟩) ?_ ?_
      rotate_left
      ·simp only [Act.put, List.setIfInBounds_toArray, List.set_cons_zero, List.set_cons_succ, i64_w, i32_w]
       rfl
      refine pure_ (i := 15) (N := some 157) (v := ?_) (a' := ?_) #[true, true, true, true, true, true, true, true, true, true, true, true, true, true, true, true, false, false] rfl rfl (by kernel_rfl) (fun _ _ _ h => h) (Or.inl ⟨by rfl, ?_⟩) ?_ ?_
      rotate_left
      ·intro w'
       go_simp
       with_reducible rfl
      rotate_left
      ·simp only [Act.put, List.setIfInBounds_toArray, List.set_cons_zero, List.set_cons_succ, i64_w, i32_w]
       rfl
      refine pure_ (i := 16) (N := some 158) (v := ?_) (a' := ?_) #[true, true, true, true, true, true, true, true, true, true, true, true, true, true, true, true, true, false] rfl rfl (by kernel_rfl) (fun _ _ _ h => h) (Or.inl ⟨by rfl, ?_⟩) ?_ ?_
      rotate_left
      ·intro w'
       go_simp
       with_reducible rfl
      rotate_left
      ·simp only [Act.put, List.setIfInBounds_toArray, List.set_cons_zero, List.set_cons_succ, i64_w, i32_w]
       rfl
      refine pure_ (i := 17) (N := some 6) (v := ?_) (a' := ?_) #[true, true, true, true, true, true, true, true, true, true, true, true, true, true, true, true, true, true] rfl rfl (by kernel_rfl) (fun _ _ _ h => h) (Or.inl ⟨by rfl, ?_⟩) ?_ ?_
      rotate_left
      ·intro w'
       go_simp
       with_reducible rfl
      rotate_left
      ·simp only [Act.put, List.setIfInBounds_toArray, List.set_cons_zero, List.set_cons_succ, i64_w, i32_w]
       rfl
      refine done_ (by kernel_rfl) ?_
      go_wp2_with fail
      go_ret
      exact ⟨rfl, below_of_le hB9 hHeld.2.2.2.2⟩
end Go.Proofs.YtmecbmgfacpecaaGreatDoor.Cron
