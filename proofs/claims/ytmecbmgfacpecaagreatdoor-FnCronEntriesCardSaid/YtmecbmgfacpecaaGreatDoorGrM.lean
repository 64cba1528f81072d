/- Lemmas and walks on the way to the law, merged by wip/tools/pack.py: DurT, DescSays, ZoneP, ParseSays, AskDur, AskDesc. Conditions: none. -/
import Derived.Test.YtmecbmgfacpecaaGreatDoorGrL
set_option linter.unusedVariables false
set_option linter.unusedSimpArgs false
namespace Go.Proofs.YtmecbmgfacpecaaGreatDoor.Dur
open Go Go.RowKit Go.Proofs.YtmecbmgfacpecaaGreatDoor.Text Go.Proofs.YtmecbmgfacpecaaGreatDoorW.PrintWords Go.Proofs.YtmecbmgfacpecaaGreatDoorW.PrintLast Go.Proofs.YtmecbmgfacpecaaGreatDoorW.PrintMore Go.Proofs.YtmecbmgfacpecaaGreatDoor.Pr
open Go.Proofs.YtmecbmgfacpecaaGreatDoor.Cron (Ev ev_of isDigit_f worse_f)
theorem bt_mid {s : ByteArray} {A B : List UInt8} {c : UInt8} (h : s.data.toList = A ++ c :: B) : bt s (A.length : Int) = ((c.toNat : Nat) : Int) ∧ A.length < s.size := by
 have hl : A.length < s.data.toList.length := by rw [h]; simp
 refine ⟨?_, by rw [size_list]; exact hl⟩;rw [bt_list s A.length hl];simp [h]
theorem dig_is (c : UInt8) : spec_isDigit.f ((c.toNat : Nat) : Int) = some (isD c) := by
 rw [isDigit_f];congr 1
 unfold isD;rw [Bool.eq_iff_iff];simp only [Bool.and_eq_true, decide_eq_true_eq];omega
theorem b46 (c : UInt8) : ((((c.toNat : Nat) : Int)) == 46) = (c == 46) := by
 rw [Bool.eq_iff_iff, beq_iff_eq, beq_iff_eq];constructor
 ·intro h;exact UInt8.toNat_inj.1 (by show c.toNat = 46; omega)
 ·rintro rfl;rfl
theorem i46 (c : UInt8) : (((c.toNat : Nat) : Int) = 46) ↔ c = 46 := by
 have := b46 c;rw [Bool.eq_iff_iff, beq_iff_eq, beq_iff_eq] at this;exact this
theorem p15 : ∀ i : Fin 16, 10 ^ i.val ≤ 1000000000000000 := by decide
theorem unit_f (u : List UInt8) (k : Nat) : spec_cronUnit.f (k + 2) (ba u) = some ((((unitM u).1 : Nat) : Int), (((unitM u).2 : Nat) : Int)) := by
 have e : (ba u).toList = u := by rw [toList_data, ba_list]
 unfold spec_cronUnit.f spec_cronUnit.j0 unitM;rw [e];by_cases h1 : u = [110, 115]
 ·subst h1; rfl
 by_cases h2 : u = [117, 115]
 ·subst h2; rfl
 by_cases h3 : u = [194, 181, 115]
 ·subst h3; rfl
 by_cases h4 : u = [206, 188, 115]
 ·subst h4; rfl
 have b2 : (u == [117, 115]) = false := by rw [beq_eq_false_iff_ne]; exact h2
 have b3 : (u == [194, 181, 115]) = false := by rw [beq_eq_false_iff_ne]; exact h3
 have b4 : (u == [206, 188, 115]) = false := by rw [beq_eq_false_iff_ne]; exact h4
 simp only [if_neg h1, if_neg h2, if_neg h3, if_neg h4, b2, b3, b4, Bool.false_eq_true, if_false, e];by_cases h5 : u = [109, 115]
 ·subst h5; rfl
 by_cases h6 : u = [115]
 ·subst h6; rfl
 by_cases h7 : u = [109]
 ·subst h7; rfl
 by_cases h8 : u = [104]
 ·subst h8; rfl
 simp only [if_neg h5, if_neg h6, if_neg h7, if_neg h8];rfl
theorem sub_mid {s : ByteArray} {A u R : List UInt8} (h : s.data.toList = A ++ (u ++ R)) : s.extract A.length (A.length + u.length) = ba u ∧ s.extract (A.length + u.length) s.size = ba R ∧ A.length + u.length ≤ s.size := by
 have hl : s.size = A.length + (u.length + R.length) := by rw [size_list, h]; simp
 refine ⟨?_, ?_, by omega⟩
 ·rw [← ba_of (s.extract _ _), extract_list, h];simp [List.take_append]
 ·rw [← ba_of (s.extract _ _), extract_list, List.take_of_length_le (by rw [← size_list]; exact Nat.le_refl _), h, ← List.append_assoc, List.drop_left' (by simp)]
end Go.Proofs.YtmecbmgfacpecaaGreatDoor.Dur
namespace Go.Proofs.YtmecbmgfacpecaaGreatDoor.Cron
open Go Go.RowKit Go.Proofs.YtmecbmgfacpecaaGreatDoor.Text Go.Proofs.YtmecbmgfacpecaaGreatDoor.Bits Go.Proofs.YtmecbmgfacpecaaGreatDoorW.PrintWords Go.Proofs.YtmecbmgfacpecaaGreatDoorW.PrintLast Go.Proofs.YtmecbmgfacpecaaGreatDoorW.PrintMore Go.Proofs.YtmecbmgfacpecaaGreatDoor.Pr
theorem blank_ex (x : Int) : ∃ b, spec_cronBlank.f x = some b := by
 unfold spec_cronBlank.f;repeat' split
 all_goals exact ⟨_, rfl⟩
theorem words_ex (s : ByteArray) (hs : s.size ≤ 4294967296) : ∀ (d i : Nat) (acc : List ByteArray) (x4 : Int), s.size - i = d → i ≤ s.size → acc.length ≤ i → (x4 = -1 ∨ ∃ a : Nat, x4 = (a : Int) ∧ a ≤ i) →
  ∃ K R, spec_CronWords.l0 K s acc x4 (s.size : Int) (i : Int) = some R ∧ R.length ≤ s.size + 1
 | 0, i, acc, x4, hd, hi, ha, h4 => by
  have hlen : acc.length < 8796093022208 := by omega
  rcases h4 with rfl | ⟨a, rfl, hai⟩
  ·refine ⟨1, acc, ?_, by omega⟩;rw [spec_CronWords.l0];rw [if_neg (by omega), if_neg (by omega)]
  ·refine ⟨1, acc ++ [s.extract (a : Int).toNat s.size], ?_, by simp; omega⟩;rw [spec_CronWords.l0];rw [if_neg (by omega), if_pos (by omega), if_pos (by omega), if_pos (by omega), if_pos hlen]
 | d + 1, i, acc, x4, hd, hi, ha, h4 => by
  have hlen : acc.length < 8796093022208 := by omega
  have hw : wrap64 ((i : Int) + 1) = ((i + 1 : Nat) : Int) := by
   unfold wrap64;omega
  obtain ⟨b, hb⟩ := blank_ex (bt s (i : Int));cases b with
  | true =>
   rcases h4 with rfl | ⟨a, rfl, hai⟩
   ·obtain ⟨K, R, h1, h2⟩ := words_ex s hs d (i + 1) acc (-1) (by omega) (by omega) (by omega) (.inl rfl);refine ⟨K + 1 + 1, R, ?_, h2⟩;rw [spec_CronWords.l0];rw [if_pos (by omega), if_pos (by omega), if_pos (by omega), hb, Option.bind_some, if_pos rfl, decide_eq_false (by omega), spec_CronWords.j1];rw [if_neg (by simp), if_pos (by omega), if_pos (by omega), hb, Option.bind_some, if_pos rfl, hw];exact h1
   ·obtain ⟨K, R, h1, h2⟩ := words_ex s hs d (i + 1) (acc ++ [s.extract (a : Int).toNat (i : Int).toNat]) (-1) (by omega) (by omega) (by simp; omega) (.inl rfl);refine ⟨K + 1 + 1, R, ?_, h2⟩;rw [spec_CronWords.l0];rw [if_pos (by omega), if_pos (by omega), if_pos (by omega), hb, Option.bind_some, if_pos rfl, decide_eq_true (by omega), spec_CronWords.j1];rw [if_pos rfl, if_pos (by omega), if_pos (by omega), if_pos (by omega), if_pos hlen, hw];exact h1
  | false =>
   rcases h4 with rfl | ⟨a, rfl, hai⟩
   ·obtain ⟨K, R, h1, h2⟩ := words_ex s hs d (i + 1) acc (i : Int) (by omega) (by omega) (by omega) (.inr ⟨i, rfl, by omega⟩);refine ⟨K + 1 + 1, R, ?_, h2⟩;rw [spec_CronWords.l0];rw [if_pos (by omega), if_pos (by omega), if_pos (by omega), hb, Option.bind_some, if_neg (by simp), spec_CronWords.j1];rw [if_neg (by simp), if_pos (by omega), if_pos (by omega), hb, Option.bind_some, if_neg (by simp), if_pos (by omega), hw];exact h1
   ·obtain ⟨K, R, h1, h2⟩ := words_ex s hs d (i + 1) acc (a : Int) (by omega) (by omega) (by omega) (.inr ⟨a, rfl, by omega⟩);refine ⟨K + 1 + 1, R, ?_, h2⟩;rw [spec_CronWords.l0];rw [if_pos (by omega), if_pos (by omega), if_pos (by omega), hb, Option.bind_some, if_neg (by simp), spec_CronWords.j1];rw [if_neg (by simp), if_pos (by omega), if_pos (by omega), hb, Option.bind_some, if_neg (by simp), if_neg (by omega), hw];exact h1
theorem wordsG_any (s : ByteArray) (hs : s.size ≤ 4294967296) : ∃ R : List ByteArray, R.length ≤ 4294967297 ∧ ∀ w : World,
  Calls Tryz.prog 23 #[.string s] w fun e w' => (∃ A c, e = .returned (.slice A R.length c) ∧ SliceOf w' A R) ∧ Below w.heap.size w w' := by
 obtain ⟨K, R, h1, h2⟩ := words_ex s hs s.size 0 [] (-1) (by omega) (by omega) (by simp) (.inl rfl);refine ⟨R, by omega, fun w => ?_⟩;refine (spec_CronWords.calls K s R w h1).mono ?_;rintro e w' ⟨v, rfl, hR, hb⟩;obtain ⟨A, c, rfl, hc, hC⟩ := Kd.R_reads hR;refine ⟨⟨A, c, rfl, ?_⟩, hb⟩;by_cases hne : R = []
 ·rw [hne];intro i x hx;simp at hx
 ·obtain ⟨g, n, cap, he, hg, ht⟩ := texts_of_R hR hne;injection he with h1 h2 h3
  intro i x hx;exact ⟨g, h1, ht.lt, ht.at_ i x hx⟩
noncomputable def delayM (d : Int) : Array Value := (zeroM.setIfInBounds 0 (.bool true)).setIfInBounds 1 (.int .i64 d)
set_option maxRecDepth 100000 in
theorem built_delay (d : Int) : Tryz.prog.built 99 [(0, .bool true), (1, .int .i64 d)] = some (delayM d) := by kernel_rfl
theorem delayM_size (d : Int) : (delayM d).size = 387 := by unfold delayM; rw [Array.size_setIfInBounds, Array.size_setIfInBounds, zeroM_size]
theorem delayM_0 (d : Int) : (delayM d)[0]? = some (.bool true) := by
 unfold delayM;rw [Array.getElem?_setIfInBounds, if_neg (by omega), Array.getElem?_setIfInBounds, if_pos rfl, if_pos (by rw [zeroM_size]; omega)]
theorem delayM_1 (d : Int) : (delayM d)[1]? = some (.int .i64 d) := by
 unfold delayM;rw [Array.getElem?_setIfInBounds, if_pos rfl, if_pos (by rw [Array.size_setIfInBounds, zeroM_size]; omega)]
theorem delayM_one (d : Int) : (delayM d).all (·.oneCell') = true := by
 have h := zeroM_one;rw [Array.all_eq_true_iff_forall_mem] at h ⊢
 intro v hv;rw [Array.mem_iff_getElem?] at hv;obtain ⟨i, hi⟩ := hv;unfold delayM at hi;rw [Array.getElem?_setIfInBounds] at hi;split at hi
 ·split at hi
  ·cases hi; rfl
  ·cases hi
 ·rw [Array.getElem?_setIfInBounds] at hi;split at hi
  ·split at hi
   ·cases hi; rfl
   ·cases hi
  ·exact h v (Array.mem_iff_getElem?.2 ⟨i, hi⟩)
section
variable {ops : Array Oper} {rest : List Oper} {o : Oper} {a : Act} {w : World} {Q : Exit → Act → World → Prop}
theorem wpList_build_delay (hg : o.guard = none) (x : Operand) (ho : o.op = .build 99 #[(0, .const (.bool true)), (1, x)]) (d : Int) (hx : a.eval x = .int .i64 d)
  (h : wpList Tryz.prog ops Q rest (a.put o.dst (.agg (delayM d))) w) : wpList Tryz.prog ops Q (o :: rest) a w := by
 have e : ((#[(0, .const (.bool true)), (1, x)] : Array (Nat × Operand)).map fun (i, x) => (i, a.eval x)).toList = [(0, .bool true), (1, .int .i64 d)] := by
  simp only [List.map_toArray, List.map_cons, List.map_nil, hx];rfl
 refine wpList_build hg 99 #[(0, .const (.bool true)), (1, x)] ho (by rw [e, built_delay]; exact Option.isSome_some) ?_;rw [e, built_delay, Option.getD_some];exact h
end
theorem zname_l0 (s : ByteArray) (hs : s.size ≤ 4294967296) : ∀ (d i : Nat), s.size - i = d → 1 ≤ i → ∃ K v, spec_CronZoneName.l0 K s (i : Int) = some (false, v) ∧ (v = 0 ∨ v = 2)
 | 0, i, hd, hi => ⟨1, 2, by rw [spec_CronZoneName.l0]; rw [if_neg (by omega)], .inr rfl⟩
 | d + 1, i, hd, hi => by
  obtain ⟨K, v, h1, h2⟩ := zname_l0 s hs d (i + 1) (by omega) (by omega);have e1 : wrap64 ((i : Int) - 1) = ((i - 1 : Nat) : Int) := by unfold wrap64; omega
  have e2 : wrap64 ((i : Int) + 1) = ((i + 1 : Nat) : Int) := by unfold wrap64; omega
  by_cases ha : bt s ((i - 1 : Nat) : Int) = 46
  ·by_cases hb : bt s (i : Int) = 46
   ·refine ⟨1, 0, ?_, .inl rfl⟩;rw [spec_CronZoneName.l0];rw [if_pos (by omega), e1, if_pos (by omega), if_pos (by omega), if_pos ha, if_pos (by omega), if_pos hb]
   ·refine ⟨K + 1, v, ?_, h2⟩;rw [spec_CronZoneName.l0];rw [if_pos (by omega), e1, if_pos (by omega), if_pos (by omega), if_pos ha, if_pos (by omega), if_neg hb, e2];exact h1
  ·refine ⟨K + 1, v, ?_, h2⟩;rw [spec_CronZoneName.l0];rw [if_pos (by omega), e1, if_pos (by omega), if_pos (by omega), if_neg ha, e2];exact h1
theorem zname_f (s : ByteArray) (hs : s.size ≤ 4294967296) : ∃ K u v, spec_CronZoneName.f K s = some (u, v) ∧ (v = 0 ∨ v = 1 ∨ v = 2) ∧ (v = 0 → zoneOk s.data.toList = false) ∧ (v = 1 → zoneOk s.data.toList = true) := by
 have e : s.toList = s.data.toList := toList_data s;have hsz := size_list s;generalize hl : s.data.toList = l at *;by_cases h0 : l = []
 ·refine ⟨1, true, 1, ?_, .inr (.inl rfl), fun h => (by omega), fun _ => by rw [h0]; rfl⟩;unfold spec_CronZoneName.f;rw [e, if_pos h0, spec_CronZoneName.j0];rw [if_pos rfl]
 by_cases h1 : l = [85, 84, 67]
 ·refine ⟨1, true, 1, ?_, .inr (.inl rfl), fun h => (by omega), fun _ => by rw [h1]; rfl⟩;unfold spec_CronZoneName.f;rw [e, if_neg h0, h1, spec_CronZoneName.j0];rw [if_pos (by rfl)]
 have b1 : (l == [85, 84, 67]) = false := by rw [beq_eq_false_iff_ne]; exact h1
 by_cases h2 : l = [76, 111, 99, 97, 108]
 ·refine ⟨1, false, 1, ?_, .inr (.inl rfl), fun h => (by omega), fun _ => by rw [h2]; rfl⟩;unfold spec_CronZoneName.f;rw [e, if_neg h0, b1, spec_CronZoneName.j0];rw [if_neg (by simp), e, if_pos h2]
 have hz : zoneOk l = false := by
  unfold zoneOk;rw [decide_eq_false h0, decide_eq_false h1, decide_eq_false h2];rfl
 have hp : 0 < l.length := List.length_pos_iff.2 h0
 have key : ∃ K v, spec_CronZoneName.j0 K s false = some (false, v) ∧ (v = 0 ∨ v = 2) := by
  by_cases ha : bt s 0 = 47
  ·refine ⟨1, 0, ?_, .inl rfl⟩;rw [spec_CronZoneName.j0];rw [if_neg (by simp), e, if_neg h2, if_pos (by omega), if_pos ha]
  by_cases hb : bt s 0 = 92
  ·refine ⟨1, 0, ?_, .inl rfl⟩;rw [spec_CronZoneName.j0];rw [if_neg (by simp), e, if_neg h2, if_pos (by omega), if_neg ha, if_pos hb]
  obtain ⟨K, v, g1, g2⟩ := zname_l0 s hs (s.size - 1) 1 rfl (by omega);refine ⟨K + 1, v, ?_, g2⟩;rw [spec_CronZoneName.j0];rw [if_neg (by simp), e, if_neg h2, if_pos (by omega), if_neg ha, if_neg hb];exact g1
 obtain ⟨K, v, g1, g2⟩ := key;refine ⟨K, false, v, ?_, by omega, fun _ => hz, fun h => (by omega)⟩;unfold spec_CronZoneName.f;rw [e, if_neg h0, b1];exact g1
def blankB (c : UInt8) : Bool := decide (c.toNat = 32) || (decide (9 ≤ c.toNat) && decide (c.toNat ≤ 13))
theorem blankB_f (c : UInt8) : spec_cronBlank.f ((c.toNat : Nat) : Int) = some (blankB c) := by
 unfold spec_cronBlank.f blankB;by_cases h1 : c.toNat = 32
 ·rw [if_pos (by omega), decide_eq_true h1];rfl
 ·rw [if_neg (by omega), decide_eq_false h1];by_cases h2 : 9 ≤ c.toNat
  ·rw [if_pos (by omega), decide_eq_true h2, Bool.false_or, Bool.true_and];congr 1
   exact decide_eq_decide.2 (by omega)
  ·rw [if_neg (by omega), decide_eq_false h2];rfl
theorem blankB_Z {c : UInt8} (h : c.toNat < 128) : spaceZ c.toNat = blankB c := by
 unfold spaceZ blankB;rw [Bool.eq_iff_iff];simp only [Bool.or_eq_true, Bool.and_eq_true, decide_eq_true_eq];omega
def trimR (l : List UInt8) : List UInt8 := (l.reverse.dropWhile blankB).reverse
def trimL (l : List UInt8) : List UInt8 := trimR (l.dropWhile blankB)
theorem trimR_blank (r : List UInt8) (c : UInt8) (h : blankB c = true) : trimR (r ++ [c]) = trimR r := by
 unfold trimR;rw [List.reverse_append, List.reverse_singleton, List.singleton_append, List.dropWhile_cons_of_pos h]
theorem trimR_keep (r : List UInt8) (c : UInt8) (h : blankB c = false) : trimR (r ++ [c]) = r ++ [c] := by
 unfold trimR;rw [List.reverse_append, List.reverse_singleton, List.singleton_append, List.dropWhile_cons_of_neg (by rw [h]; simp)];simp
theorem trim_l1 : ∀ (n : Nat) (l : List UInt8), l.length = n → l.length ≤ 4294967296 → ∃ K, spec_CronTrim.l1 K (ba l) = some (ba (trimR l)) := by
 intro n;induction n with
 | zero =>
  intro l hn _;obtain rfl := List.length_eq_zero_iff.1 hn;refine ⟨1, ?_⟩;rw [spec_CronTrim.l1];rw [if_pos (by rw [toList_data, ba_list])];rfl
 | succ n ih =>
  intro l hn hl;rcases List.eq_nil_or_concat l with rfl | ⟨r, c, rfl⟩
  ·simp at hn
  ·simp only [List.concat_eq_append, List.length_append, List.length_cons, List.length_nil] at hn hl ⊢
   obtain ⟨hb, hlt⟩ := Dur.bt_mid (s := ba (r ++ [c])) (A := r) (B := []) (c := c) (by rw [ba_list]);have hsz : (ba (r ++ [c])).size = r.length + 1 := by rw [ba_size]; simp
   have hw : wrap64 (((ba (r ++ [c])).size : Int) - 1) = ((r.length : Nat) : Int) := by rw [hsz]; unfold wrap64; omega
   have hne : ¬ (ba (r ++ [c])).toList = [] := by rw [toList_data, ba_list]; simp
   have hx : (ba (r ++ [c])).extract 0 r.length = ba r := by
    rw [← ba_of ((ba (r ++ [c])).extract _ _), extract_list, ba_list];simp
   cases hc : blankB c with
   | true =>
    obtain ⟨K, hK⟩ := ih r (by omega) (by omega);refine ⟨K + 1, ?_⟩;rw [spec_CronTrim.l1];rw [if_neg hne, hw, if_pos (by omega), if_pos (by omega), hb, blankB_f, hc, Option.bind_some, if_pos rfl, if_pos (by omega), Int.toNat_natCast, hx, hK, trimR_blank _ _ hc]
   | false =>
    refine ⟨1, ?_⟩;rw [spec_CronTrim.l1];rw [if_neg hne, hw, if_pos (by omega), if_pos (by omega), hb, blankB_f, hc, Option.bind_some, if_neg (by simp), trimR_keep _ _ hc]
theorem trim_l0 : ∀ (l : List UInt8), l.length ≤ 4294967296 → ∃ K, spec_CronTrim.l0 K (ba l) = some (ba (trimL l))
 | [], _ => by
  obtain ⟨K, hK⟩ := trim_l1 0 [] rfl (by simp);refine ⟨K + 1 + 1, ?_⟩;rw [spec_CronTrim.l0];rw [if_pos (by rw [toList_data, ba_list]), spec_CronTrim.j1];exact hK
 | c :: l, hl => by
  simp only [List.length_cons] at hl;obtain ⟨hb, hlt⟩ := Dur.bt_mid (s := ba (c :: l)) (A := []) (B := l) (c := c) (by rw [ba_list]; rfl);rw [show (([] : List UInt8).length : Int) = 0 from rfl] at hb;have hsz : (ba (c :: l)).size = l.length + 1 := by rw [ba_size]; simp
  have hne : ¬ (ba (c :: l)).toList = [] := by rw [toList_data, ba_list]; simp
  have hx : (ba (c :: l)).extract 1 (ba (c :: l)).size = ba l := by
   rw [← ba_of ((ba (c :: l)).extract _ _), extract_list, ba_list, hsz];simp
  cases hc : blankB c with
  | true =>
   obtain ⟨K, hK⟩ := trim_l0 l (by omega);refine ⟨K + 1, ?_⟩;rw [spec_CronTrim.l0];rw [if_neg hne, if_pos (by omega), hb, blankB_f, hc, Option.bind_some, if_pos rfl, if_pos (by omega), hx, hK];unfold trimL;rw [List.dropWhile_cons_of_pos hc]
  | false =>
   obtain ⟨K, hK⟩ := trim_l1 _ (c :: l) rfl (by simp only [List.length_cons]; omega);refine ⟨K + 1 + 1, ?_⟩;rw [spec_CronTrim.l0];rw [if_neg hne, if_pos (by omega), hb, blankB_f, hc, Option.bind_some, if_neg (by simp), spec_CronTrim.j1];unfold trimL;rw [List.dropWhile_cons_of_neg (by rw [hc]; simp)];exact hK
def trimG : Nat → Option (Nat × Nat) → List UInt8 → Option (Nat × Nat)
 | _, st, [] => st
 | pos, st, c :: l => trimG (pos + 1) (if blankB c = true then st else match st with
  | none => some (pos, pos + 1)
  | some x => some (x.1, pos + 1)) l
theorem trimG_cons (pos : Nat) (st : Option (Nat × Nat)) (c : UInt8) (l : List UInt8) : trimG pos st (c :: l) = trimG (pos + 1) (if blankB c = true then st else match st with
 | none => some (pos, pos + 1)
 | some x => some (x.1, pos + 1)) l := rfl
theorem trimF_G (s : ByteArray) (ha : Ascii s) : ∀ (R A : List UInt8) (st : Option (Nat × Nat)) (f : Nat), s.data.toList = A ++ R → R.length ≤ f → trimF s f A.length st = trimG A.length st R
 | [], A, st, f, h, hf => by
  cases f with
  | zero => rfl
  | succ f =>
   unfold trimF;rw [if_neg (by rw [size_list, h]; simp)];rfl
 | c :: R, A, st, f, h, hf => by
  rw [List.length_cons] at hf;obtain ⟨f, rfl⟩ : ∃ m, f = m + 1 := ⟨f - 1, by omega⟩
  have hlt : A.length < s.size := by rw [size_list, h]; simp
  have hl : A.length < s.data.toList.length := by rw [h]; simp
  have hc : c.toNat < 128 := ha c (by rw [h]; simp);have hd : Utf8.decode s A.length = (c.toNat, 1) := (dec_at c hc s A.length hlt).1 (by simp [h])
  have ih := trimF_G s ha R (A ++ [c]) (if blankB c = true then st else match st with
   | none => some (A.length, A.length + 1)
   | some x => some (x.1, A.length + 1)) f (by rw [h]; simp) (by omega)
  rw [show (A ++ [c]).length = A.length + 1 by simp] at ih;unfold trimF trimG;rw [if_pos hlt, hd];dsimp only;rw [blankB_Z hc];exact ih
theorem trimG_blank : ∀ (B : List UInt8) (pos : Nat) (st : Option (Nat × Nat)) (R : List UInt8), (∀ c ∈ B, blankB c = true) → trimG pos st (B ++ R) = trimG (pos + B.length) st R
 | [], pos, st, R, _ => rfl
 | c :: B, pos, st, R, h => by
  rw [List.cons_append, trimG_cons, if_pos (h c List.mem_cons_self), trimG_blank B (pos + 1) st R (fun d hd => h d (List.mem_cons_of_mem _ hd)), List.length_cons, show pos + 1 + B.length = pos + (B.length + 1) by omega]
theorem trimG_last : ∀ (T : List UInt8) (pos a b : Nat) (c : UInt8) (R : List UInt8), blankB c = false → trimG pos (some (a, b)) (T ++ c :: R) = trimG (pos + T.length + 1) (some (a, pos + T.length + 1)) R
 | [], pos, a, b, c, R, h => by
  rw [List.nil_append, trimG_cons, if_neg (by rw [h]; simp)];rfl
 | d :: T, pos, a, b, c, R, h => by
  rw [List.cons_append, trimG_cons]
  have : (if blankB d = true then some (a, b) else match (some (a, b) : Option (Nat × Nat)) with
   | none => some (pos, pos + 1)
   | some x => some (x.1, pos + 1)) = some (a, if blankB d = true then b else pos + 1) := by
   split <;> rfl
  rw [this, trimG_last T (pos + 1) a _ c R h, List.length_cons, show pos + 1 + T.length + 1 = pos + (T.length + 1) + 1 by omega]
theorem trimR_split (l : List UInt8) : ∃ B, l = trimR l ++ B ∧ (∀ c ∈ B, blankB c = true) := by
 refine ⟨(l.reverse.takeWhile blankB).reverse, ?_, fun c hc => ?_⟩
 ·unfold trimR;rw [← List.reverse_append, List.takeWhile_append_dropWhile, List.reverse_reverse]
 ·exact Dur.mem_tw c (List.mem_reverse.1 hc)
theorem trimR_end (l : List UInt8) : trimR l = [] ∨ ∃ T c, trimR l = T ++ [c] ∧ blankB c = false := by
 unfold trimR;rcases Dur.stop_drop blankB l.reverse with h | ⟨c, t, h, hc⟩
 ·rw [h]; exact .inl rfl
 ·rw [h]; exact .inr ⟨t.reverse, c, by simp, hc⟩
theorem trim_same (l : List UInt8) (ha : Ascii (ba (trimL l))) : trimZ (ba l) = ba (trimL l) := by
 have hbA : ∀ c, blankB c = true → c.toNat < 128 := fun c h => by
  unfold blankB at h;simp only [Bool.or_eq_true, Bool.and_eq_true, decide_eq_true_eq] at h;omega
 obtain ⟨B2, h2, hB2⟩ := trimR_split (l.dropWhile blankB);have h1 := List.takeWhile_append_dropWhile (p := blankB) (l := l);have hB1 : ∀ c ∈ l.takeWhile blankB, blankB c = true := Dur.mem_tw
 have hA : Ascii (ba l) := by
  intro c hc;rw [ba_list, ← h1, h2] at hc;rcases List.mem_append.1 hc with hc | hc
  ·exact hbA c (hB1 c hc)
  ·rcases List.mem_append.1 hc with hc | hc
   ·exact ha c (by rw [ba_list]; exact hc)
   ·exact hbA c (hB2 c hc)
 have hF := trimF_G (ba l) hA l [] none (ba l).size (by rw [ba_list]; rfl) (by rw [ba_size]; exact Nat.le_refl _);rw [List.length_nil] at hF
 have hsplit : l = l.takeWhile blankB ++ (trimL l ++ B2) := by
  rw [show trimL l = trimR (l.dropWhile blankB) from rfl, ← h2, h1]
 have hG : trimG 0 none l = if trimL l = [] then none else some ((l.takeWhile blankB).length, (l.takeWhile blankB).length + (trimL l).length) := by
  have hfirst : trimL l = [] ∨ ∃ c t, trimL l = c :: t ∧ blankB c = false := by
   rcases Dur.stop_drop blankB l with h | ⟨c, t, h, hc⟩
   ·left
    unfold trimL;rw [h];rfl
   ·by_cases he : trimL l = []
    ·exact .inl he
    ·right
     have hx : trimL l ++ B2 = c :: t := by
      rw [show trimL l = trimR (l.dropWhile blankB) from rfl, ← h2, h]
     cases hq : trimL l with
     | nil => exact absurd hq he
     | cons d r =>
      rw [hq, List.cons_append] at hx;injection hx with hx1 hx2
      exact ⟨d, r, rfl, by rw [hx1]; exact hc⟩
  generalize l.takeWhile blankB = B1 at *;have hlast := trimR_end (l.dropWhile blankB);rw [show trimR (l.dropWhile blankB) = trimL l from rfl] at hlast;rw [show trimG 0 none l = trimG 0 none (B1 ++ (trimL l ++ B2)) from congrArg (trimG 0 none) hsplit];rw [trimG_blank B1 0 none _ hB1, Nat.zero_add];generalize trimL l = T at *;rcases hlast with rfl | ⟨T2, c2, rfl, hc2⟩
  ·have := trimG_blank B2 B1.length none [] hB2;rw [List.append_nil] at this;rw [List.nil_append, this, if_pos rfl];rfl
  ·rw [if_neg (by simp)];have hb2 := trimG_blank B2;cases T2 with
   | nil =>
    have := trimG_blank B2 (B1.length + 1) (some (B1.length, B1.length + 1)) [] hB2;rw [List.append_nil] at this;rw [List.nil_append, List.singleton_append, trimG_cons, if_neg (by rw [hc2]; simp)];exact this
   | cons d T3 =>
    have hd : blankB d = false := by
     rcases hfirst with h | ⟨c, t, h, hc⟩
     ·simp at h
     ·rw [List.cons_append] at h;injection h with h _
      rw [h];exact hc
    have := trimG_blank B2 (B1.length + 1 + T3.length + 1) (some (B1.length, B1.length + 1 + T3.length + 1)) [] hB2;rw [List.append_nil] at this;rw [List.cons_append, List.cons_append, trimG_cons, if_neg (by rw [hd]; simp), List.append_assoc, List.singleton_append, trimG_last T3 (B1.length + 1) B1.length (B1.length + 1) c2 B2 hc2, this];simp only [trimG, List.length_append, List.length_cons, List.length_nil];congr 2
    omega
 unfold trimZ;rw [hF, hG];by_cases he : trimL l = []
 ·rw [if_pos he, he];rfl
 ·rw [if_neg he];dsimp only;have hs3 := Dur.sub_mid (s := ba l) (A := l.takeWhile blankB) (u := trimL l) (R := B2) (by rw [ba_list]; exact hsplit);exact hs3.1
def spaceIn (s : ByteArray) : Bool := s.data.toList.any (fun c => c == 32)
theorem spaceIn_mem {s : ByteArray} (h : spaceIn s = true) : (32 : UInt8) ∈ s.data.toList := by
 unfold spaceIn at h;rw [List.any_eq_true] at h;obtain ⟨c, hc, he⟩ := h;rw [beq_iff_eq] at he;rw [← he];exact hc
set_option maxRecDepth 100000 in
theorem noAnswer_any (l : List UInt8) (hl : l.length ≤ 4294967296) (w : World) :
  Calls Tryz.prog 9 #[.string (ba l)] w fun e w' => e = .returned (.bool (!spaceIn (ba l) && decide (0 < zoneZ (ba l)))) ∧ Below w.heap.size w w' := by
 have HZ := Lib.hid (fun w' => zoneHead_any (ba l) w')
 have HSP : Hid (∀ j (h : j < l.length), l[j] = 32 → spaceIn (ba l) = true) := Lib.hid fun j h he => by
  unfold spaceIn;rw [ba_list, List.any_eq_true];exact ⟨_, List.getElem_mem h, by rw [he]; rfl⟩
 have HSN : Hid ((∀ j (h : j < l.length), l[j] ≠ 32) → spaceIn (ba l) = false) := Lib.hid fun hn => by
  unfold spaceIn;rw [ba_list, List.any_eq_false];intro c hc;obtain ⟨j, hj, rfl⟩ := List.getElem_of_mem hc;simpa using hn j hj
 have hsz := ba_size l;generalize spaceIn (ba l) = sp at *;generalize zoneZ (ba l) = z at *;go_enter Tryz.func9, Tryz.ntmps9;go_wp2_with fail
 go_loopw [6] (fun v6 wr => ∃ (i : Nat), v6 = .int .i64 i ∧ i ≤ l.length ∧ Hid (∀ j (h : j < l.length), j < i → l[j] ≠ 32) ∧ Below w.heap.size w wr) (fun v6 _ => l.length - (intOf v6).toNat)
 case atStart => exact ⟨0, rfl, by omega, Lib.hid (fun j h h' => by omega), Below.refl _ _⟩
 case round =>
  obtain ⟨i, rfl, hi, HA, hbr⟩ := hrel;by_cases hlt : i < l.length
  ·have hdl : decide ((i : Int) < (ba l).size) = true := decide_eq_true (by rw [hsz]; omega);have hix := fun w' => str_at l i hlt w'
   by_cases h32 : l[i] = 32
   ·have hq : (((l[i].toNat : Nat) : Int) == 32) = true := by rw [h32]; rfl
    have HT := Lib.hid (HSP.out i hlt h32);clear h32;go_wp2_with fail
    go_ret;refine ⟨?_, hbr⟩;rw [HT.out];rfl
   ·have hq : (((l[i].toNat : Nat) : Int) == 32) = false := by
     rw [beq_eq_false_iff_ne];intro h;exact h32 (UInt8.toNat_inj.1 (by show l[i].toNat = 32; omega))
    go_wp2_with fail
    go_roundw
    case rel =>
     refine ⟨i + 1, by go_num, by omega, Lib.hid fun j h h' => ?_, hbr⟩;by_cases hji : j < i
     ·exact HA.out j h hji
     ·obtain rfl : j = i := by omega
      exact h32
    case measure => simp [intOf]; omega
  ·have HT := Lib.hid (HSN.out (fun j h => HA.out j h (by omega)));obtain rfl : i = l.length := by omega
   have hdl : decide ((l.length : Int) < (ba l).size) = false := decide_eq_false (by rw [hsz]; omega);go_wp2_with fail
   refine (HZ.out _).mono ?_;rintro e w1 ⟨rfl, hb1⟩;go_wp2_with fail
   go_ret;refine ⟨?_, below_of_le hbr hb1⟩;rw [HT.out];show _ = Ending.returned (.bool (decide (0 < z)))
   rw [show decide (0 < z) = decide ((0 : Int) < (z : Nat)) from decide_eq_decide.2 (by omega)];rfl
theorem space_facts (l : List UInt8) (h : (32 : UInt8) ∈ l) : (l.takeWhile (fun c => c != 32)).length < l.length ∧ (∀ j (hj : j < l.length), j < (l.takeWhile (fun c => c != 32)).length → l[j] ≠ 32) ∧ (∀ hj : (l.takeWhile (fun c => c != 32)).length < l.length, l[(l.takeWhile (fun c => c != 32)).length] = 32) := by
 have h1 := List.takeWhile_append_dropWhile (p := fun c : UInt8 => c != 32) (l := l)
 have hm : ∀ c ∈ l.takeWhile (fun c => c != 32), c ≠ 32 := fun c hc => by
  have := Dur.mem_tw (p := fun c => c != 32) c hc;simpa using this
 rcases Dur.stop_drop (fun c : UInt8 => c != 32) l with hd | ⟨c, t, hd, hc⟩
 ·rw [hd, List.append_nil] at h1;rw [← h1] at h;exact absurd rfl (hm 32 h)
 ·have hc32 : c = 32 := by simpa using hc
  rw [hd] at h1;generalize l.takeWhile (fun c => c != 32) = T at *;subst h1;refine ⟨by simp, fun j hj hjT => ?_, fun hj => ?_⟩
  ·rw [List.getElem_append_left hjT];exact hm _ (List.getElem_mem hjT)
  ·rw [List.getElem_append_right (Nat.le_refl _)];simp [hc32]
theorem zone_le (s : ByteArray) (hz : zoneZ s ≠ 0) (h : (32 : UInt8) ∈ s.data.toList) : zoneZ s ≤ spaceAt s := by
 unfold zoneZ at hz ⊢
 unfold spaceAt;cases p1 : Lib.hasPrefix s.data.toList [84, 90, 61] with
 | true =>
  rw [if_pos rfl];obtain ⟨t, ht⟩ := List.isPrefixOf_iff_prefix.1 p1;rw [← ht];simp [List.takeWhile]
 | false =>
  cases p2 : Lib.hasPrefix s.data.toList [67, 82, 79, 78, 95, 84, 90, 61] with
  | true =>
   rw [if_neg (by simp), if_pos rfl];obtain ⟨t, ht⟩ := List.isPrefixOf_iff_prefix.1 p2;rw [← ht];simp [List.takeWhile]
  | false =>
   rw [p1, p2] at hz;exact absurd rfl hz
theorem MeanOf.utc {cs : Array Value} {g : Got} (h : MeanOf cs g) (v : Value) (hn : cs.size = 387) : MeanOf (cs.setIfInBounds 386 v) g := by
 cases g with
 | bits l =>
  obtain ⟨h0, fs, hf, hj⟩ := h;refine ⟨?_, fs, hf, fun j hjl => ?_⟩
  ·rw [Array.getElem?_setIfInBounds, if_neg (by omega)];exact h0
  ·rw [Array.getElem?_setIfInBounds, if_neg (by omega)];exact hj j hjl
 | delay d =>
  obtain ⟨h0, h1⟩ := h;refine ⟨?_, ?_⟩
  ·rw [Array.getElem?_setIfInBounds, if_neg (by omega)];exact h0
  ·rw [Array.getElem?_setIfInBounds, if_neg (by omega)];exact h1
theorem MeanOf.every {cs : Array Value} {g : Got} (h : MeanOf cs g) : ∃ b, cs[0]? = some (.bool b) := by
 cases g with
 | bits l => exact ⟨false, h.1⟩
 | delay d => exact ⟨true, h.1⟩
theorem set_one {cs : Array Value} (h : cs.all (·.oneCell') = true) (i : Nat) (b : Bool) : (cs.setIfInBounds i (.bool b)).all (·.oneCell') = true := by
 rw [Array.all_eq_true_iff_forall_mem] at h ⊢
 intro v hv;rw [Array.mem_iff_getElem?] at hv;obtain ⟨j, hj⟩ := hv;rw [Array.getElem?_setIfInBounds] at hj;split at hj
 ·split at hj
  ·cases hj; rfl
  ·cases hj
 ·exact h v (Array.mem_iff_getElem?.2 ⟨j, hj⟩)
end Go.Proofs.YtmecbmgfacpecaaGreatDoor.Cron
namespace Go.Proofs.YtmecbmgfacpecaaGreatDoor.Dur
open Go Go.RowKit Go.Proofs.YtmecbmgfacpecaaGreatDoor.Text Go.Proofs.YtmecbmgfacpecaaGreatDoorW.PrintWords Go.Proofs.YtmecbmgfacpecaaGreatDoorW.PrintLast Go.Proofs.YtmecbmgfacpecaaGreatDoorW.PrintMore Go.Proofs.YtmecbmgfacpecaaGreatDoor.Pr
open Go.Proofs.YtmecbmgfacpecaaGreatDoor.Cron (worse_f str_from' str_sub str_at viaThen below_of_le)
theorem frame149 (a : Act) (h : a.tmps.size = 149) (hd : a.defers = []) : ∃ u : Nat → Value, (∀ i, u i = a.tmps.getD i undef) ∧ a = { tmps := #[u 0, u 1, u 2, u 3, u 4, u 5, u 6, u 7, u 8, u 9, u 10, u 11, u 12, u 13, u 14, u 15, u 16, u 17, u 18, u 19, u 20, u 21, u 22, u 23, u 24, u 25, u 26, u 27, u 28, u 29, u 30, u 31, u 32, u 33, u 34, u 35, u 36, u 37, u 38, u 39, u 40, u 41, u 42, u 43, u 44, u 45, u 46, u 47, u 48, u 49, u 50, u 51, u 52, u 53, u 54, u 55, u 56, u 57, u 58, u 59, u 60, u 61, u 62, u 63, u 64, u 65, u 66, u 67, u 68, u 69, u 70, u 71, u 72, u 73, u 74, u 75, u 76, u 77, u 78, u 79, u 80, u 81, u 82, u 83, u 84, u 85, u 86, u 87, u 88, u 89, u 90, u 91, u 92, u 93, u 94, u 95, u 96, u 97, u 98, u 99, u 100, u 101, u 102, u 103, u 104, u 105, u 106, u 107, u 108, u 109, u 110, u 111, u 112, u 113, u 114, u 115, u 116, u 117, u 118, u 119, u 120, u 121, u 122, u 123, u 124, u 125, u 126, u 127, u 128, u 129, u 130, u 131, u 132, u 133, u 134, u 135, u 136, u 137, u 138, u 139, u 140, u 141, u 142, u 143, u 144, u 145, u 146, u 147, u 148], defers := [] } := by
 obtain ⟨t, d⟩ := a;dsimp only at *;subst hd;refine ⟨fun i => t.getD i undef, fun i => rfl, ?_⟩
 have he : t = ((List.range 149).map (fun i => t.getD i undef)).toArray := by
  apply Array.ext
  ·simpa using h
  ·intro i h1 h2;simp only [List.getElem_toArray, List.getElem_map, List.getElem_range];rw [Array.getD_eq_getD_getElem?, Array.getElem?_eq_getElem h1];rfl
 exact congrArg (fun x => ({ tmps := x, defers := [] } : Act)) he
def TermW (w : World) (n : Nat) (e : Ending) (w' : World) : Prop := ∃ (k : Int) (r : List UInt8) (v : Int), e = .returned (.tuple #[.int .i64 k, .string (ba r), .int .i64 v]) ∧ (v = 0 ∨ v = 1 ∨ v = 2) ∧ (v ≠ 0 → r.length < n) ∧ Below w.heap.size w w'
set_option maxRecDepth 100000 in
set_option maxHeartbeats 8000000 in
theorem termW_any (l : List UInt8) (hl : l.length ≤ 4294967296) (w : World) :
  Calls Tryz.prog 205 #[.string (ba l)] w (TermW w l.length) := by
 have hsz := ba_size l;have HDG := Lib.hid (fun (c : UInt8) w' => spec_isDigit.calls _ _ w' (dig_is c));have HUN := Lib.hid (fun (t : List UInt8) w' => spec_cronUnit.calls 2 (ba t) _ _ w' (unit_f t 0));have HU0 : Hid ((unitM []).1 = 0) := Lib.hid (by rfl);go_enter Tryz.func205, Tryz.ntmps205;go_wp2_with fail
 rename_i K hK
 refine viaThen hK (fun a w' => Below w.heap.size w w' ∧ a.tmps.size = 149 ∧ a.defers = [] ∧ a.tmps.getD 0 undef = .string (ba l) ∧ ∃ (i : Nat) (m4 m6 m7 m8 : Int), i ≤ l.length ∧ (m4 = 1 ∨ m4 = 2) ∧ (0 ≤ m8 ∧ m8 ≤ i) ∧ a.tmps.getD 4 undef = .int .i64 m4 ∧ a.tmps.getD 5 undef = .int .i64 (i : Nat) ∧ a.tmps.getD 6 undef = .int .i64 m6 ∧ a.tmps.getD 7 undef = .int .i64 m7 ∧ a.tmps.getD 8 undef = .int .i64 m8) ?_ ?_;rotate_left
 ·intro HT;clear hK;go_loopw [4, 5, 6] (fun v4 v5 v6 wr => ∃ (i : Nat) (m4 m6 : Int), v4 = .int .i64 m4 ∧ v5 = .int .i64 i ∧ v6 = .int .i64 m6 ∧ (m4 = 1 ∨ m4 = 2) ∧ i ≤ l.length ∧ Below w.heap.size w wr) (fun _ v5 _ _ => l.length - (intOf v5).toNat)
  case atStart => exact ⟨0, 1, 0, rfl, rfl, rfl, .inl rfl, by omega, Below.refl _ _⟩
  case round =>
   obtain ⟨i, m4, m6, rfl, rfl, rfl, hm4, hi, hb⟩ := hrel;by_cases hlt : i < l.length
   ·have hd : decide ((i : Int) < (ba l).size) = true := decide_eq_true (by rw [hsz]; omega);have hix := fun w' => str_at l i hlt w'
    have HD := Lib.hid (HDG.out l[i]);generalize isD l[i] = bd at *;go_wp2_with fail
    refine (HD.out _).mono ?_;rintro e w1 ⟨rfl, hd1⟩;have HB1 := Lib.hid (below_of_le hb hd1.below);clear hd1;cases bd with
    | true =>
     by_cases h15 : (i : Int) < 15
     ·have hq : decide ((i : Int) < 15) = true := decide_eq_true h15;go_wp2_with fail
      go_roundw
      case rel => exact ⟨i + 1, _, _, rfl, by go_num, rfl, hm4, by omega, HB1.out⟩
      case measure => simp [intOf]; omega
     ·have hq : decide ((i : Int) < 15) = false := decide_eq_false h15;go_wp2_with fail
      go_roundw
      case rel => exact ⟨i + 1, _, _, rfl, by go_num, rfl, .inr rfl, by omega, HB1.out⟩
      case measure => simp [intOf]; omega
    | false =>
     go_wp2_with fail
     exact HT.out _ _ ⟨HB1.out, rfl, rfl, rfl, i, m4, m6, 0, 0, hi, hm4, by omega, rfl, rfl, rfl, rfl, rfl⟩
   ·have hd : decide ((i : Int) < (ba l).size) = false := decide_eq_false (by rw [hsz]; omega);go_wp2_with fail
    exact HT.out _ _ ⟨hb, rfl, rfl, rfl, i, m4, m6, 0, 0, hi, hm4, by omega, rfl, rfl, rfl, rfl, rfl⟩
 clear hK;rintro a wt ⟨hb, hs, hd, h0, i, m4, m6, m7, m8, hi, hm4, hm8, h4, h5, h6, h7, h8⟩;obtain ⟨u, hu, ha⟩ := frame149 a hs hd;rw [← hu] at h0 h4 h5 h6 h7 h8
 rw [h0, h4, h5, h6, h7, h8] at ha;clear hu hs hd h0 h4 h5 h6 h7 h8;subst ha;go_upto_region 9 with fail
 rename_i K1 hK1 Kc1 hKc1
 refine viaThen hK1 (fun a w' => Below w.heap.size w w' ∧ a.tmps.size = 149 ∧ a.defers = [] ∧ a.tmps.getD 0 undef = .string (ba l) ∧ ∃ (i : Nat) (m4 m6 m7 m8 m9 : Int), i ≤ l.length ∧ (m4 = 1 ∨ m4 = 2) ∧ (0 ≤ m8 ∧ m8 ≤ i) ∧ a.tmps.getD 4 undef = .int .i64 m4 ∧ a.tmps.getD 5 undef = .int .i64 (i : Nat) ∧ a.tmps.getD 6 undef = .int .i64 m6 ∧ a.tmps.getD 7 undef = .int .i64 m7 ∧ a.tmps.getD 8 undef = .int .i64 m8 ∧ a.tmps.getD 9 undef = .int .i64 m9) ?_ ?_;rotate_left
 ·intro HT;clear hK1;by_cases hlt : i < l.length
  ·have hd : decide ((i : Int) < (ba l).size) = true := decide_eq_true (by rw [hsz]; omega);have hix := fun w' => str_at l i hlt w'
   by_cases h46 : (((l[i].toNat : Nat) : Int) == 46) = true
   ·go_wp2_with fail
    go_loopw [5, 7, 8] (fun v5 v7 v8 wr => ∃ (j : Nat) (a7 a8 : Int), v5 = .int .i64 j ∧ v7 = .int .i64 a7 ∧ v8 = .int .i64 a8 ∧ a8 ≤ j ∧ 0 ≤ a8 ∧ j ≤ l.length ∧ Below w.heap.size w wr) (fun v5 _ _ _ => l.length - (intOf v5).toNat)
    case atStart => exact ⟨i + 1, m7, m8, by go_num, rfl, rfl, by omega, by omega, by omega, hb⟩
    case round =>
     obtain ⟨j, a7, a8, rfl, rfl, rfl, ha8, hb8, hj, hbj⟩ := hrel;clear hix hd h46;by_cases hlj : j < l.length
     ·have hd : decide ((j : Int) < (ba l).size) = true := decide_eq_true (by rw [hsz]; omega);have hix := fun w' => str_at l j hlj w'
      have hw8 : wrap64 (a8 + 1) = a8 + 1 := by simp [RowKit.wrap64]; omega
      have HD := Lib.hid (HDG.out l[j]);generalize isD l[j] = bd at *;go_wp2_with fail
      refine (HD.out _).mono ?_;rintro e w1 ⟨rfl, hd1⟩;have HB1 := Lib.hid (below_of_le hbj hd1.below);clear hd1;cases bd with
      | true =>
       by_cases h11 : a8 + 1 ≤ 11
       ·have hq : decide (a8 + 1 ≤ 11) = true := decide_eq_true h11;go_wp2_with fail
        go_roundw
        case rel => exact ⟨j + 1, _, a8 + 1, by go_num, rfl, by go_num, by omega, by omega, by omega, HB1.out⟩
        case measure => simp [intOf]; omega
       ·have hq : decide (a8 + 1 ≤ 11) = false := decide_eq_false h11;go_wp2_with fail
        go_roundw
        case rel => exact ⟨j + 1, _, a8 + 1, by go_num, rfl, by go_num, by omega, by omega, by omega, HB1.out⟩
        case measure => simp [intOf]; omega
      | false =>
       go_wp2_with fail
       exact HT.out _ _ ⟨HB1.out, rfl, rfl, rfl, j, m4, m6, a7, a8, _, hj, hm4, by omega, rfl, rfl, rfl, rfl, rfl, rfl⟩
     ·have hd : decide ((j : Int) < (ba l).size) = false := decide_eq_false (by rw [hsz]; omega);go_wp2_with fail
      exact HT.out _ _ ⟨hbj, rfl, rfl, rfl, j, m4, m6, a7, a8, _, hj, hm4, by omega, rfl, rfl, rfl, rfl, rfl, rfl⟩
   ·have h46' : (((l[i].toNat : Nat) : Int) == 46) = false := by simpa using h46
    go_wp2_with fail
    exact HT.out _ _ ⟨hb, rfl, rfl, rfl, i, m4, m6, m7, m8, _, hi, hm4, hm8, rfl, rfl, rfl, rfl, rfl, rfl⟩
  ·have hd : decide ((i : Int) < (ba l).size) = false := decide_eq_false (by rw [hsz]; omega);go_wp2_with fail
   exact HT.out _ _ ⟨hb, rfl, rfl, rfl, i, m4, m6, m7, m8, _, hi, hm4, hm8, rfl, rfl, rfl, rfl, rfl, rfl⟩
 clear hK1;rintro a wt ⟨hb, hs, hd, h0, i, m4, m6, m7, m8, m9, hi, hm4, hm8, h4, h5, h6, h7, h8, h9⟩;obtain ⟨u, hu, ha⟩ := frame149 a hs hd;rw [← hu] at h0 h4 h5 h6 h7 h8 h9
 rw [h0, h4, h5, h6, h7, h8, h9] at ha;clear hu hs hd h0 h4 h5 h6 h7 h8 h9;subst ha;go_wp2_with fail
 rename_i K2 hK2
 refine viaThen hK2 (fun a w' => Below w.heap.size w w' ∧ a.tmps.size = 149 ∧ a.defers = [] ∧ a.tmps.getD 0 undef = .string (ba l) ∧ ∃ (i : Nat) (m4 m6 m7 m8 m9 : Int) (f : Nat), i ≤ l.length ∧ (m4 = 1 ∨ m4 = 2) ∧ (0 ≤ m8 ∧ m8 ≤ i) ∧ f ≤ i ∧ a.tmps.getD 4 undef = .int .i64 m4 ∧ a.tmps.getD 5 undef = .int .i64 (i : Nat) ∧ a.tmps.getD 6 undef = .int .i64 m6 ∧ a.tmps.getD 7 undef = .int .i64 m7 ∧ a.tmps.getD 8 undef = .int .i64 m8 ∧ a.tmps.getD 9 undef = .int .i64 m9 ∧ a.tmps.getD 10 undef = .int .i64 (f : Nat)) ?_ ?_;rotate_left
 ·intro HT;clear hK2;obtain ⟨f, hf⟩ : ∃ f : Nat, f = i := ⟨_, rfl⟩
  go_loopw [5] (fun v5 wr => ∃ (i' : Nat), v5 = .int .i64 i' ∧ f ≤ i' ∧ i' ≤ l.length ∧ Below w.heap.size w wr) (fun v5 _ => l.length - (intOf v5).toNat)
  case atStart => exact ⟨i, rfl, by omega, hi, hb⟩
  case round =>
   obtain ⟨i', rfl, hfi, hi', hb'⟩ := hrel;by_cases hlt : i' < l.length
   ·have hd : decide ((i' : Int) < (ba l).size) = true := decide_eq_true (by rw [hsz]; omega);have hix := fun w' => str_at l i' hlt w'
    have HD := Lib.hid (HDG.out l[i']);generalize isD l[i'] = bd at *;go_wp2_with fail
    refine (HD.out _).mono ?_;rintro e w1 ⟨rfl, hd1⟩;have HB1 := Lib.hid (below_of_le hb' hd1.below);clear hd1;cases bd with
    | true =>
     go_wp2_with fail
     exact HT.out _ _ ⟨HB1.out, rfl, rfl, rfl, i', m4, m6, m7, m8, m9, f, hi', hm4, by omega, hfi, rfl, rfl, rfl, rfl, rfl, rfl, by rw [hf]; rfl⟩
    | false =>
     by_cases h46 : (((l[i'].toNat : Nat) : Int) == 46) = true
     ·have hq : (((l[i'].toNat : Nat) : Int) != 46) = false := by rw [bne, h46]; rfl
      go_wp2_with fail
      exact HT.out _ _ ⟨HB1.out, rfl, rfl, rfl, i', m4, m6, m7, m8, m9, f, hi', hm4, by omega, hfi, rfl, rfl, rfl, rfl, rfl, rfl, by rw [hf]; rfl⟩
     ·have h46' : (((l[i'].toNat : Nat) : Int) == 46) = false := by simpa using h46
      have hq : (((l[i'].toNat : Nat) : Int) != 46) = true := by rw [bne, h46']; rfl
      go_wp2_with fail
      go_roundw
      case rel => exact ⟨i' + 1, by go_num, by omega, by omega, HB1.out⟩
      case measure => simp [intOf]; omega
   ·have hd : decide ((i' : Int) < (ba l).size) = false := decide_eq_false (by rw [hsz]; omega);go_wp2_with fail
    exact HT.out _ _ ⟨hb', rfl, rfl, rfl, i', m4, m6, m7, m8, m9, f, hi', hm4, by omega, hfi, rfl, rfl, rfl, rfl, rfl, rfl, by rw [hf]; rfl⟩
 clear hK2;rintro a wt ⟨hb, hs, hd, h0, i, m4, m6, m7, m8, m9, f, hi, hm4, hm8, hf, h4, h5, h6, h7, h8, h9, h10⟩;obtain ⟨u, hu, ha⟩ := frame149 a hs hd;rw [← hu] at h0 h4 h5 h6 h7 h8 h9 h10
 rw [h0, h4, h5, h6, h7, h8, h9, h10] at ha;clear hu hs hd h0 h4 h5 h6 h7 h8 h9 h10;subst ha;have hie : i ≤ (ba l).size := by rw [hsz]; exact hi
 obtain ⟨t, ht⟩ : ∃ t, (ba l).extract f i = ba t := ⟨_, (ba_of _).symm⟩
 have htl : t.length = i - f := by
  have := congrArg ByteArray.size ht;rw [ByteArray.size_extract, ba_size, ba_size] at this;omega
 obtain ⟨r, hr⟩ : ∃ r, (ba l).extract i (ba l).size = ba r := ⟨_, (ba_of _).symm⟩
 have hrl : r.length = l.length - i := by
  have := congrArg ByteArray.size hr;rw [ByteArray.size_extract, ba_size, ba_size] at this;omega
 have hsub := fun w' => str_sub (ba l) f i hf hie w'
 have hfrm := fun w' => str_from' (ba l) i hie w'
 rw [ht] at hsub;rw [hr] at hfrm;have HU := Lib.hid (HUN.out t)
 have hfi : (unitM t).1 ≠ 0 → f < i := fun h => by
  by_cases hfe : f < i
  ·exact hfe
  ·have : t = [] := List.length_eq_zero_iff.1 (by omega);rw [this] at h;exact absurd HU0.out h
 generalize (unitM t).1 = un at *;generalize (unitM t).2 = dn at *;have HFI := Lib.hid hfi;have HRL := Lib.hid hrl;clear ht htl hr hrl hfi HDG HUN HU0;go_wp2_with fail
 refine (HU.out _).mono ?_;rintro e w1 ⟨rfl, hd1⟩;have HB1 := Lib.hid (below_of_le hb hd1.below);clear hd1 hb;by_cases h9 : m9 = 0
 ·have hq : (m9 == 0) = true := by simpa using h9
  go_wp2_with fail
  go_ret3
  exact ⟨0, [], 0, rfl, .inl rfl, (fun h => absurd rfl h), HB1.out⟩
 have hq9 : (m9 == 0) = false := by simpa using h9
 by_cases hun : un = 0
 ·have hq : (((un : Nat) : Int) == 0) = true := by simpa using hun
  go_wp2_with fail
  go_ret3
  exact ⟨0, [], 0, rfl, .inl rfl, (fun h => absurd rfl h), HB1.out⟩
 have hqu : (((un : Nat) : Int) == 0) = false := by simpa using hun
 have hlt : r.length < l.length := by have := HFI.out hun; have := HRL.out; omega
 by_cases hbig : (dn : Int) < m8
 ·have hq : decide ((dn : Int) < m8) = true := decide_eq_true hbig;go_upto_region 24 with fail
  obtain ⟨wo, hwo⟩ : ∃ wo : World, wo = w1 := ⟨_, rfl⟩
  subst hwo;refine start_ (n := 6) (S := fun w' => Below wo.heap.size wo w') (ds := []) #[nn, nn, nn, nn, nn, nn] (by kernel_rfl) rfl rfl ((Below.refl _ _).drew) (fun hHeld => ?_);refine pure_ (i := 0) (N := some 121) (v := ?_) (a' := ?_) #[yy, nn, nn, nn, nn, nn] rfl rfl (by kernel_rfl) (fun _ _ _ h => h) (Or.inl ⟨by rfl, ?_⟩) ?_ ?_;rotate_left
  ·intro w';go_simp;with_reducible rfl
  rotate_left
  ·simp only [nrm];rfl
  refine pure_ (i := 1) (N := some 122) (v := ?_) (a' := ?_) #[yy, yy, nn, nn, nn, nn] rfl rfl (by kernel_rfl) (fun _ _ _ h => h) (Or.inl ⟨by rfl, ?_⟩) ?_ ?_;rotate_left
  ·intro w';go_simp;with_reducible rfl
  rotate_left
  ·simp only [nrm];rfl
  refine pure_ (i := 2) (N := some 123) (v := ?_) (a' := ?_) #[yy, yy, yy, nn, nn, nn] rfl rfl (by kernel_rfl) (fun _ _ _ h => h) (Or.inl ⟨by rfl, ?_⟩) ?_ ?_;rotate_left
  ·intro w';go_simp;with_reducible rfl
  rotate_left
  ·simp only [nrm];rfl
  refine pure_ (i := 3) (N := some 2) (v := ?_) (a' := ?_) #[yy, yy, yy, yy, nn, nn] rfl rfl (by kernel_rfl) (fun _ _ _ h => h) (Or.inl ⟨by rfl, ?_⟩) ?_ ?_;rotate_left
  ·intro w';go_simp;with_reducible rfl
  rotate_left
  ·simp only [nrm];rfl
  refine pure_ (i := 4) (N := some 3) (v := ?_) (a' := ?_) #[yy, yy, yy, yy, yy, nn] rfl rfl (by kernel_rfl) (fun _ _ _ h => h) (Or.inl ⟨by rfl, ?_⟩) ?_ ?_;rotate_left
  ·intro w';go_simp;with_reducible rfl
  rotate_left
  ·simp only [nrm];rfl
  refine pure_ (i := 5) (N := some 4) (v := ?_) (a' := ?_) #[yy, yy, yy, yy, yy, yy] rfl rfl (by kernel_rfl) (fun _ _ _ h => h) (Or.inl ⟨by rfl, ?_⟩) ?_ ?_;rotate_left
  ·intro w';go_simp;with_reducible rfl
  rotate_left
  ·simp only [nrm];rfl
  refine done_ (by kernel_rfl) ?_;have HB2 := Lib.hid (below_of_le HB1.out hHeld);clear hHeld;go_wp2_with fail
  go_ret3
  exact ⟨0, r, 2, rfl, .inr (.inr rfl), (fun _ => hlt), HB2.out⟩
 have hqb : decide ((dn : Int) < m8) = false := decide_eq_false hbig;by_cases hwb : wrap64 (4611686018427387904 / (un : Int) - 1) < m6
 ·have hq : decide (wrap64 (4611686018427387904 / (un : Int) - 1) < m6) = true := decide_eq_true hwb;go_upto_region 24 with fail
  obtain ⟨wo, hwo⟩ : ∃ wo : World, wo = w1 := ⟨_, rfl⟩
  subst hwo;refine start_ (n := 6) (S := fun w' => Below wo.heap.size wo w') (ds := []) #[nn, nn, nn, nn, nn, nn] (by kernel_rfl) rfl rfl ((Below.refl _ _).drew) (fun hHeld => ?_);refine pure_ (i := 0) (N := some 121) (v := ?_) (a' := ?_) #[yy, nn, nn, nn, nn, nn] rfl rfl (by kernel_rfl) (fun _ _ _ h => h) (Or.inl ⟨by rfl, ?_⟩) ?_ ?_;rotate_left
  ·intro w';go_simp;with_reducible rfl
  rotate_left
  ·simp only [nrm];rfl
  refine pure_ (i := 1) (N := some 122) (v := ?_) (a' := ?_) #[yy, yy, nn, nn, nn, nn] rfl rfl (by kernel_rfl) (fun _ _ _ h => h) (Or.inl ⟨by rfl, ?_⟩) ?_ ?_;rotate_left
  ·intro w';go_simp;with_reducible rfl
  rotate_left
  ·simp only [nrm];rfl
  refine pure_ (i := 2) (N := some 123) (v := ?_) (a' := ?_) #[yy, yy, yy, nn, nn, nn] rfl rfl (by kernel_rfl) (fun _ _ _ h => h) (Or.inl ⟨by rfl, ?_⟩) ?_ ?_;rotate_left
  ·intro w';go_simp;with_reducible rfl
  rotate_left
  ·simp only [nrm];rfl
  refine pure_ (i := 3) (N := some 2) (v := ?_) (a' := ?_) #[yy, yy, yy, yy, nn, nn] rfl rfl (by kernel_rfl) (fun _ _ _ h => h) (Or.inl ⟨by rfl, ?_⟩) ?_ ?_;rotate_left
  ·intro w';go_simp;with_reducible rfl
  rotate_left
  ·simp only [nrm];rfl
  refine pure_ (i := 4) (N := some 3) (v := ?_) (a' := ?_) #[yy, yy, yy, yy, yy, nn] rfl rfl (by kernel_rfl) (fun _ _ _ h => h) (Or.inl ⟨by rfl, ?_⟩) ?_ ?_;rotate_left
  ·intro w';go_simp;with_reducible rfl
  rotate_left
  ·simp only [nrm];rfl
  refine pure_ (i := 5) (N := some 4) (v := ?_) (a' := ?_) #[yy, yy, yy, yy, yy, yy] rfl rfl (by kernel_rfl) (fun _ _ _ h => h) (Or.inl ⟨by rfl, ?_⟩) ?_ ?_;rotate_left
  ·intro w';go_simp;with_reducible rfl
  rotate_left
  ·simp only [nrm];rfl
  refine done_ (by kernel_rfl) ?_;have HB2 := Lib.hid (below_of_le HB1.out hHeld);clear hHeld;go_wp2_with fail
  go_ret3
  exact ⟨0, r, 2, rfl, .inr (.inr rfl), (fun _ => hlt), HB2.out⟩
 have hqw : decide (wrap64 (4611686018427387904 / (un : Int) - 1) < m6) = false := decide_eq_false hwb;go_wp2_with fail
 go_loopw [11, 125] (fun v11 v125 wr => ∃ (q : Int) (j : Nat), v11 = .int .i64 q ∧ v125 = .int .i64 j ∧ j ≤ l.length ∧ Below w.heap.size w wr) (fun _ v125 _ => m8.toNat - (intOf v125).toNat)
 case atStart => exact ⟨_, 0, rfl, rfl, by omega, HB1.out⟩
 case round =>
  obtain ⟨q, j, rfl, rfl, hj, hbj⟩ := hrel;by_cases hjm : (j : Int) < m8
  ·have hd : decide ((j : Int) < m8) = true := decide_eq_true hjm;go_wp2_with fail
   go_roundw
   case rel => exact ⟨_, j + 1, rfl, by go_num, by omega, hbj⟩
   case measure => simp [intOf]; omega
  ·have hd : decide ((j : Int) < m8) = false := decide_eq_false hjm;go_wp2_with fail
   refine (HU.out _).mono ?_;rintro e w2 ⟨rfl, hd2⟩;have HB2 := Lib.hid (below_of_le hbj hd2.below);clear hd2;go_upto_region 30 with fail
   obtain ⟨wo, hwo⟩ : ∃ wo : World, wo = w2 := ⟨_, rfl⟩
   subst hwo;refine start_ (n := 14) (S := fun w' => Below wo.heap.size wo w') (ds := []) #[nn, nn, nn, nn, nn, nn, nn, nn, nn, nn, nn, nn, nn, nn] (by kernel_rfl) rfl rfl ((Below.refl _ _).drew) (fun hHeld => ?_);refine pure_ (i := 0) (N := some 138) (v := ?_) (a' := ?_) #[yy, nn, nn, nn, nn, nn, nn, nn, nn, nn, nn, nn, nn, nn] rfl rfl (by kernel_rfl) (fun _ _ _ h => h) (Or.inl ⟨by rfl, ?_⟩) ?_ ?_;rotate_left
   ·intro w';go_simp;with_reducible rfl
   rotate_left
   ·simp only [nrm];rfl
   refine pure_ (i := 1) (N := some 139) (v := ?_) (a' := ?_) #[yy, yy, nn, nn, nn, nn, nn, nn, nn, nn, nn, nn, nn, nn] rfl rfl (by kernel_rfl) (fun _ _ _ h => h) (Or.inl ⟨by rfl, ?_⟩) ?_ ?_;rotate_left
   ·intro w';go_simp;with_reducible rfl
   rotate_left
   ·simp only [nrm];rfl
   refine pure_ (i := 2) (N := some 140) (v := ?_) (a' := ?_) #[yy, yy, yy, nn, nn, nn, nn, nn, nn, nn, nn, nn, nn, nn] rfl rfl (by kernel_rfl) (fun _ _ _ h => h) (Or.inl ⟨by rfl, ?_⟩) ?_ ?_;rotate_left
   ·intro w';go_simp;with_reducible rfl
   rotate_left
   ·simp only [nrm];rfl
   refine pure_ (i := 3) (N := some 141) (v := ?_) (a' := ?_) #[yy, yy, yy, yy, nn, nn, nn, nn, nn, nn, nn, nn, nn, nn] rfl rfl (by kernel_rfl) (fun _ _ _ h => h) (Or.inl ⟨by rfl, ?_⟩) ?_ ?_;rotate_left
   ·intro w';go_simp;with_reducible rfl
   rotate_left
   ·simp only [nrm];rfl
   refine pure_ (i := 4) (N := some 142) (v := ?_) (a' := ?_) #[yy, yy, yy, yy, yy, nn, nn, nn, nn, nn, nn, nn, nn, nn] rfl rfl (by kernel_rfl) (fun _ _ _ h => h) (Or.inl ⟨by rfl, ?_⟩) ?_ ?_;rotate_left
   ·intro w';go_simp;with_reducible rfl
   rotate_left
   ·simp only [nrm];rfl
   refine pure_ (i := 5) (N := some 143) (v := ?_) (a' := ?_) #[yy, yy, yy, yy, yy, yy, nn, nn, nn, nn, nn, nn, nn, nn] rfl rfl (by kernel_rfl) (fun _ _ _ h => h) (Or.inl ⟨by rfl, ?_⟩) ?_ ?_;rotate_left
   ·intro w';go_simp;with_reducible rfl
   rotate_left
   ·simp only [nrm];rfl
   refine pure_ (i := 6) (N := some 144) (v := ?_) (a' := ?_) #[yy, yy, yy, yy, yy, yy, yy, nn, nn, nn, nn, nn, nn, nn] rfl rfl (by kernel_rfl) (fun _ _ _ h => h) (Or.inl ⟨by rfl, ?_⟩) ?_ ?_;rotate_left
   ·intro w';go_simp;with_reducible rfl
   rotate_left
   ·simp only [nrm];rfl
   refine pure_ (i := 7) (N := some 145) (v := ?_) (a' := ?_) #[yy, yy, yy, yy, yy, yy, yy, yy, nn, nn, nn, nn, nn, nn] rfl rfl (by kernel_rfl) (fun _ _ _ h => h) (Or.inl ⟨by rfl, ?_⟩) ?_ ?_;rotate_left
   ·intro w';go_simp;with_reducible rfl
   rotate_left
   ·simp only [nrm];rfl
   refine pure_ (i := 8) (N := some 146) (v := ?_) (a' := ?_) #[yy, yy, yy, yy, yy, yy, yy, yy, yy, nn, nn, nn, nn, nn] rfl rfl (by kernel_rfl) (fun _ _ _ h => h) (Or.inl ⟨by rfl, ?_⟩) ?_ ?_;rotate_left
   ·intro w';go_simp;with_reducible rfl
   rotate_left
   ·simp only [nrm];rfl
   refine pure_ (i := 9) (N := some 147) (v := ?_) (a' := ?_) #[yy, yy, yy, yy, yy, yy, yy, yy, yy, yy, nn, nn, nn, nn] rfl rfl (by kernel_rfl) (fun _ _ _ h => h) (Or.inl ⟨by rfl, ?_⟩) ?_ ?_;rotate_left
   ·intro w';go_simp;with_reducible rfl
   rotate_left
   ·simp only [nrm];rfl
   refine pure_ (i := 10) (N := some 148) (v := ?_) (a' := ?_) #[yy, yy, yy, yy, yy, yy, yy, yy, yy, yy, yy, nn, nn, nn] rfl rfl (by kernel_rfl) (fun _ _ _ h => h) (Or.inl ⟨by rfl, ?_⟩) ?_ ?_;rotate_left
   ·intro w';go_simp;with_reducible rfl
   rotate_left
   ·simp only [nrm];rfl
   refine pure_ (i := 11) (N := some 2) (v := ?_) (a' := ?_) #[yy, yy, yy, yy, yy, yy, yy, yy, yy, yy, yy, yy, nn, nn] rfl rfl (by kernel_rfl) (fun _ _ _ h => h) (Or.inl ⟨by rfl, ?_⟩) ?_ ?_;rotate_left
   ·intro w';go_simp;with_reducible rfl
   rotate_left
   ·simp only [nrm];rfl
   refine pure_ (i := 12) (N := some 3) (v := ?_) (a' := ?_) #[yy, yy, yy, yy, yy, yy, yy, yy, yy, yy, yy, yy, yy, nn] rfl rfl (by kernel_rfl) (fun _ _ _ h => h) (Or.inl ⟨by rfl, ?_⟩) ?_ ?_;rotate_left
   ·intro w';go_simp;with_reducible rfl
   rotate_left
   ·simp only [nrm];rfl
   refine pure_ (i := 13) (N := some 4) (v := ?_) (a' := ?_) #[yy, yy, yy, yy, yy, yy, yy, yy, yy, yy, yy, yy, yy, yy] rfl rfl (by kernel_rfl) (fun _ _ _ h => h) (Or.inl ⟨by rfl, ?_⟩) ?_ ?_;rotate_left
   ·intro w';go_simp;with_reducible rfl
   rotate_left
   ·simp only [nrm];rfl
   refine done_ (by kernel_rfl) ?_;have HB3 := Lib.hid (below_of_le HB2.out hHeld);clear hHeld;go_wp2_with fail
   go_ret3
   exact ⟨_, r, m4, rfl, .inr hm4, (fun _ => hlt), HB3.out⟩
theorem frame59 (a : Act) (h : a.tmps.size = 59) (hd : a.defers = []) : ∃ u : Nat → Value, (∀ i, u i = a.tmps.getD i undef) ∧ a = { tmps := #[u 0, u 1, u 2, u 3, u 4, u 5, u 6, u 7, u 8, u 9, u 10, u 11, u 12, u 13, u 14, u 15, u 16, u 17, u 18, u 19, u 20, u 21, u 22, u 23, u 24, u 25, u 26, u 27, u 28, u 29, u 30, u 31, u 32, u 33, u 34, u 35, u 36, u 37, u 38, u 39, u 40, u 41, u 42, u 43, u 44, u 45, u 46, u 47, u 48, u 49, u 50, u 51, u 52, u 53, u 54, u 55, u 56, u 57, u 58], defers := [] } := by
 obtain ⟨t, d⟩ := a;dsimp only at *;subst hd;refine ⟨fun i => t.getD i undef, fun i => rfl, ?_⟩
 have he : t = ((List.range 59).map (fun i => t.getD i undef)).toArray := by
  apply Array.ext
  ·simpa using h
  ·intro i h1 h2;simp only [List.getElem_toArray, List.getElem_map, List.getElem_range];rw [Array.getD_eq_getD_getElem?, Array.getElem?_eq_getElem h1];rfl
 exact congrArg (fun x => ({ tmps := x, defers := [] } : Act)) he
def DurW (w : World) (e : Ending) (w' : World) : Prop := ∃ k v : Int, e = .returned (.tuple #[.int .i64 k, .int .i64 v]) ∧ (v = 0 ∨ v = 1 ∨ v = 2) ∧ Below w.heap.size w w'
def strN : Value → Nat
 | .string b => b.size
 | _ => 0
set_option maxRecDepth 100000 in
set_option maxHeartbeats 8000000 in
theorem durW_any (l : List UInt8) (hl : l.length ≤ 4294967296) (w : World) :
  Calls Tryz.prog 170 #[.string (ba l)] w (DurW w) := by
 have HTM := Lib.hid (fun (t : List UInt8) (ht : t.length ≤ 4294967296) w' => termW_any t ht w');go_enter Tryz.func170, Tryz.ntmps170;go_upto_region 2 with fail
 rename_i K hK Kc hKc
 refine viaThen hK (fun a w' => Below w.heap.size w w' ∧ a.tmps.size = 59 ∧ a.defers = [] ∧ ∃ (t : List UInt8) (b : Bool), t.length ≤ l.length ∧ a.tmps.getD 0 undef = .string (ba t) ∧ a.tmps.getD 4 undef = .bool b) ?_ ?_;rotate_left
 ·intro HT;clear hK;cases l with
  | nil =>
   have hq : (ba []).toList = [] := by rw [toList_data, ba_list]
   go_wp2_with fail
   exact HT.out _ _ ⟨Below.refl _ _, rfl, rfl, [], false, Nat.le_refl _, rfl, rfl⟩
  | cons c t =>
   have hq2 : ¬ (ba (c :: t)).toList = [] := by rw [toList_data, ba_list]; simp
   have hq4 : (ba (c :: t)).toList.isEmpty = false := by rw [toList_data, ba_list]; rfl
   have hix : ∀ w' : World, (Instr.index 9 (.string (ba (c :: t))) (.int .i64 0)).run Tryz.prog w' = .ok (.int .u8 (c.toNat : Nat)) w' := fun w' => str_at (c :: t) 0 (by simp) w'
   have hfrm : ∀ w' : World, (Instr.slice 9 (.string (ba (c :: t))) (some (.int .i64 1)) none none).run Tryz.prog w' = .ok (.string (ba t)) w' := fun w' => by
    have := str_from' (ba (c :: t)) 1 (by rw [ba_size]; simp) w';rw [← ba_of ((ba (c :: t)).extract _ _), extract_list, ba_list, ba_size] at this;have e : List.drop 1 (List.take (c :: t).length (c :: t)) = t := by rw [List.take_length]; rfl
    rw [e] at this;exact this
   by_cases h45 : (((c.toNat : Nat) : Int) == 45) = true
   ·go_upto_region 3 with fail
    obtain ⟨wo, hwo⟩ : ∃ wo : World, wo = w := ⟨_, rfl⟩
    refine start_ (n := 7) (S := fun w' => Below w.heap.size w w') (ds := []) #[nn, nn, nn, nn, nn, nn, nn] (by kernel_rfl) rfl rfl ((Below.refl _ _).drew) (fun hHeld => ?_);refine pure_ (i := 0) (N := some 22) (v := ?_) (a' := ?_) #[yy, nn, nn, nn, nn, nn, nn] rfl rfl (by kernel_rfl) (fun _ _ _ h => h) (Or.inl ⟨by rfl, ?_⟩) ?_ ?_;rotate_left
    ·intro w';go_simp;with_reducible rfl
    rotate_left
    ·simp only [nrm];rfl
    refine pure_ (i := 3) (N := some 25) (v := ?_) (a' := ?_) #[yy, nn, nn, yy, nn, nn, nn] rfl rfl (by kernel_rfl) (fun _ _ _ h => h) (Or.inl ⟨by rfl, ?_⟩) ?_ ?_;rotate_left
    ·intro w';go_simp;with_reducible rfl
    rotate_left
    ·simp only [nrm];rfl
    refine pure_ (i := 4) (N := some 26) (v := ?_) (a' := ?_) #[yy, nn, nn, yy, yy, nn, nn] rfl rfl (by kernel_rfl) (fun _ _ _ h => h) (Or.inl ⟨by rfl, ?_⟩) ?_ ?_;rotate_left
    ·intro w';go_simp;with_reducible rfl
    rotate_left
    ·simp only [nrm];rfl
    refine take_ (i := 1) (N := some 23) (v := ?_) (a' := ?_) #[yy, yy, nn, yy, yy, nn, nn] rfl rfl (by kernel_rfl) (fun _ _ _ h => h) (Or.inl ⟨by rfl, ?_⟩) hHeld ?_ ?_;rotate_left
    ·intro w' s0;go_simp;with_reducible rfl
    rotate_left
    ·simp only [nrm];rfl
    refine pure_ (i := 2) (N := some 24) (v := ?_) (a' := ?_) #[yy, yy, yy, yy, yy, nn, nn] rfl rfl (by kernel_rfl) (fun _ _ _ h => h) (Or.inl ⟨by rfl, ?_⟩) ?_ ?_;rotate_left
    ·intro w';go_simp;with_reducible rfl
    rotate_left
    ·simp only [nrm];rfl
    refine pure_ (i := 5) (N := some 4) (v := ?_) (a' := ?_) #[yy, yy, yy, yy, yy, yy, nn] rfl rfl (by kernel_rfl) (fun _ _ _ h => h) (Or.inl ⟨by rfl, ?_⟩) ?_ ?_;rotate_left
    ·intro w';go_simp;with_reducible rfl
    rotate_left
    ·simp only [nrm];rfl
    refine pure_ (i := 6) (N := some 0) (v := ?_) (a' := ?_) #[yy, yy, yy, yy, yy, yy, yy] rfl rfl (by kernel_rfl) (fun _ _ _ h => h) (Or.inl ⟨by rfl, ?_⟩) ?_ ?_;rotate_left
    ·intro w';go_simp;with_reducible rfl
    rotate_left
    ·simp only [nrm];rfl
    refine done_ (by kernel_rfl) ?_;exact HT.out _ _ ⟨hHeld, rfl, rfl, t, true, by simp, rfl, rfl⟩
   ·have h45' : (((c.toNat : Nat) : Int) == 45) = false := by simpa using h45
    by_cases h43 : (((c.toNat : Nat) : Int) == 43) = true
    ·go_upto_region 3 with fail
     refine start_ (n := 7) (S := fun w' => Below w.heap.size w w') (ds := []) #[nn, nn, nn, nn, nn, nn, nn] (by kernel_rfl) rfl rfl ((Below.refl _ _).drew) (fun hHeld => ?_);refine pure_ (i := 0) (N := some 22) (v := ?_) (a' := ?_) #[yy, nn, nn, nn, nn, nn, nn] rfl rfl (by kernel_rfl) (fun _ _ _ h => h) (Or.inl ⟨by rfl, ?_⟩) ?_ ?_;rotate_left
     ·intro w';go_simp;with_reducible rfl
     rotate_left
     ·simp only [nrm];rfl
     refine pure_ (i := 3) (N := some 25) (v := ?_) (a' := ?_) #[yy, nn, nn, yy, nn, nn, nn] rfl rfl (by kernel_rfl) (fun _ _ _ h => h) (Or.inl ⟨by rfl, ?_⟩) ?_ ?_;rotate_left
     ·intro w';go_simp;with_reducible rfl
     rotate_left
     ·simp only [nrm];rfl
     refine pure_ (i := 4) (N := some 26) (v := ?_) (a' := ?_) #[yy, nn, nn, yy, yy, nn, nn] rfl rfl (by kernel_rfl) (fun _ _ _ h => h) (Or.inl ⟨by rfl, ?_⟩) ?_ ?_;rotate_left
     ·intro w';go_simp;with_reducible rfl
     rotate_left
     ·simp only [nrm];rfl
     refine take_ (i := 1) (N := some 23) (v := ?_) (a' := ?_) #[yy, yy, nn, yy, yy, nn, nn] rfl rfl (by kernel_rfl) (fun _ _ _ h => h) (Or.inl ⟨by rfl, ?_⟩) hHeld ?_ ?_;rotate_left
     ·intro w' s0;go_simp;with_reducible rfl
     rotate_left
     ·simp only [nrm];rfl
     refine pure_ (i := 2) (N := some 24) (v := ?_) (a' := ?_) #[yy, yy, yy, yy, yy, nn, nn] rfl rfl (by kernel_rfl) (fun _ _ _ h => h) (Or.inl ⟨by rfl, ?_⟩) ?_ ?_;rotate_left
     ·intro w';go_simp;with_reducible rfl
     rotate_left
     ·simp only [nrm];rfl
     refine pure_ (i := 5) (N := some 4) (v := ?_) (a' := ?_) #[yy, yy, yy, yy, yy, yy, nn] rfl rfl (by kernel_rfl) (fun _ _ _ h => h) (Or.inl ⟨by rfl, ?_⟩) ?_ ?_;rotate_left
     ·intro w';go_simp;with_reducible rfl
     rotate_left
     ·simp only [nrm];rfl
     refine pure_ (i := 6) (N := some 0) (v := ?_) (a' := ?_) #[yy, yy, yy, yy, yy, yy, yy] rfl rfl (by kernel_rfl) (fun _ _ _ h => h) (Or.inl ⟨by rfl, ?_⟩) ?_ ?_;rotate_left
     ·intro w';go_simp;with_reducible rfl
     rotate_left
     ·simp only [nrm];rfl
     refine done_ (by kernel_rfl) ?_;exact HT.out _ _ ⟨hHeld, rfl, rfl, t, false, by simp, rfl, rfl⟩
    ·have h43' : (((c.toNat : Nat) : Int) == 43) = false := by simpa using h43
     go_wp2_with fail
     exact HT.out _ _ ⟨Below.refl _ _, rfl, rfl, c :: t, false, Nat.le_refl _, rfl, rfl⟩
 clear hK;rintro a wt ⟨hb, hs, hd, t, b, htl, h0, h4⟩;obtain ⟨u, hu, ha⟩ := frame59 a hs hd;rw [← hu] at h0 h4
 rw [h0, h4] at ha;clear hu hs hd h0 h4;subst ha;by_cases h48 : t = [48]
 ·subst h48;have hq : (ba [48]).toList = [48] := by rw [toList_data, ba_list]
  go_wp2_with fail
  go_ret2;exact ⟨0, 1, rfl, .inr (.inl rfl), hb⟩
 have hq1 : ¬ (ba t).toList = [48] := by rw [toList_data, ba_list]; exact h48
 have hq3 : ((ba t).toList == [48]) = false := by rw [beq_eq_false_iff_ne]; exact hq1
 by_cases hne : t = []
 ·subst hne;have hq : (ba []).toList = [] := by rw [toList_data, ba_list]
  go_wp2_with fail
  go_ret2;exact ⟨0, 0, rfl, .inl rfl, hb⟩
 have hq2 : ¬ (ba t).toList = [] := by rw [toList_data, ba_list]; exact hne
 have hq4 : (ba t).toList.isEmpty = false := by rw [toList_data, ba_list]; simpa using hne
 go_wp2_with fail
 clear hq1 hq2 hq3 hq4;go_loopw [0, 5, 6] (fun v0 v5 v6 wr => ∃ (t' : List UInt8) (s v : Int), v0 = .string (ba t') ∧ v5 = .int .i64 s ∧ v6 = .int .i64 v ∧ (v = 1 ∨ v = 2) ∧ t'.length ≤ l.length ∧ Below w.heap.size w wr) (fun v0 _ _ _ => strN v0)
 case atStart => exact ⟨t, 0, 1, rfl, rfl, rfl, .inl rfl, htl, hb⟩
 case round =>
  obtain ⟨t', s, v, rfl, rfl, rfl, hv, htl', hbr⟩ := hrel;by_cases hne' : t' = []
  ·subst hne';have hq : (ba []).toList = [] := by rw [toList_data, ba_list]
   rcases hv with rfl | rfl
   ·cases b with
    | true =>
     go_wp2_with fail
     go_ret2;exact ⟨_, 1, rfl, .inr (.inl rfl), hbr⟩
    | false =>
     go_wp2_with fail
     go_ret2;exact ⟨_, 1, rfl, .inr (.inl rfl), hbr⟩
   ·go_wp2_with fail
    go_ret2;exact ⟨0, 2, rfl, .inr (.inr rfl), hbr⟩
  ·have hq2 : ¬ (ba t').toList = [] := by rw [toList_data, ba_list]; exact hne'
   have hq4 : (ba t').toList.isEmpty = false := by rw [toList_data, ba_list]; simpa using hne'
   have hsz' := ba_size t';go_wp2_with fail
   refine (HTM.out t' (by omega) _).mono ?_;rintro e w1 ⟨k, r, v2, rfl, hv2, hr, hb1⟩;have HB1 := Lib.hid (below_of_le hbr hb1);obtain ⟨v3, g1, g2, g3, g4, g5, g6⟩ := worse_f v v2 (.inr hv) hv2;have HWO := Lib.hid (fun w' => spec_worse.calls v v2 v3 w' g1);have HV3 : Hid (v3 ≠ 0 → (v3 = 1 ∨ v3 = 2) ∧ r.length < t'.length) := Lib.hid fun h => ⟨by omega, hr (fun h0 => h (g5 (.inr h0)))⟩
   clear g1 g2 g3 g4 g5 g6 hr hv2 hb1;go_wp2_with fail
   refine (HWO.out _).mono ?_;rintro e w2 ⟨rfl, hd2⟩;have HB2 := Lib.hid (below_of_le HB1.out (by first | exact hd2 | exact hd2.below));clear hd2 HWO;by_cases h30 : v3 = 0
   ·subst h30;go_wp2_with fail
    go_ret2;exact ⟨0, 0, rfl, .inl rfl, HB2.out⟩
   ·have hq0 : (v3 == 0) = false := by simpa using h30
    obtain ⟨hv3, hlt⟩ := HV3.out h30;have hrs := ba_size r;by_cases hsum : wrap64 (4611686018427387904 - k) < s
    ·have hq : decide (wrap64 (4611686018427387904 - k) < s) = true := decide_eq_true hsum;go_wp2_with fail
     go_roundw
     case rel => exact ⟨r, _, 2, rfl, rfl, rfl, .inr rfl, by omega, HB2.out⟩
     case measure => simp only [strN]; omega
    ·have hq : decide (wrap64 (4611686018427387904 - k) < s) = false := decide_eq_false hsum;go_wp2_with fail
     go_roundw
     case rel => exact ⟨r, _, v3, rfl, rfl, rfl, hv3, by omega, HB2.out⟩
     case measure => simp only [strN]; omega
end Go.Proofs.YtmecbmgfacpecaaGreatDoor.Dur
namespace Go.Proofs.YtmecbmgfacpecaaGreatDoor.Cron
open Go Go.RowKit Go.Proofs.YtmecbmgfacpecaaGreatDoor.Text Go.Proofs.YtmecbmgfacpecaaGreatDoor.Bits Go.Proofs.YtmecbmgfacpecaaGreatDoorW.PrintWords Go.Proofs.YtmecbmgfacpecaaGreatDoorW.PrintLast Go.Proofs.YtmecbmgfacpecaaGreatDoorW.PrintMore Go.Proofs.YtmecbmgfacpecaaGreatDoor.Pr
def AskM (w : World) (e : Ending) (w' : World) : Prop := ∃ r, SaysM w r e w'
theorem askM_no {w w' : World} {v : Int} (hv : v = 0 ∨ v = 2) (hb : Below w.heap.size w w') : AskM w (.returned (.tuple #[.agg zeroM, .int .i64 v])) w' :=
 ⟨none, ⟨zeroM, v, rfl, zeroM_size, zeroM_one, hv.elim .inl (fun h => .inr (.inr h)), fun _ => rfl, fun h => (by omega)⟩, hb⟩
theorem delay_ex (k : Int) : ∃ r, spec_CronDelay.f k = some r := by
 unfold spec_CronDelay.f;split <;> exact ⟨_, rfl⟩
theorem described_ex (s : ByteArray) : ∃ five, spec_CronDescribed.f 3 s = some five ∧ (five = ⟨#[]⟩ ∨ (five.size ≤ 9 ∧ five.data.toList ≠ [] ∧ Lib.hasPrefix five.data.toList [64] = false)) := by
 simp only [spec_CronDescribed.f, spec_CronDescribed.j0, spec_CronDescribed.j1]
 (repeat' split) <;> (refine ⟨_, rfl, ?_⟩; first | exact .inl rfl | exact .inr ⟨by decide, by decide, by rfl⟩)
set_option maxRecDepth 100000 in
set_option maxHeartbeats 8000000 in
theorem descAsk_any (l : List UInt8) (hl : l.length ≤ 4294967296) (w : World) :
  Calls Tryz.prog 137 #[.string (ba l)] w (AskM w) := by
 have hal := run_alloc_M;have HR0 := Lib.hid (zeroM_row w);have HB0 : Hid (Below w.heap.size w (w.alloc (.cells zeroM 99))) := Lib.hid ((Below.refl _ _).alloc (Nat.le_refl _) _);obtain ⟨five, hf5, h5⟩ := described_ex (ba l);have HD := Lib.hid (fun w' => spec_CronDescribed.calls 3 (ba l) five w' hf5);clear hf5;rcases h5 with rfl | ⟨h9, hne, hat⟩
 rotate_left
 ·have HP := Lib.hid (fun w' => cronPlainP_any 380 (by decide) (by rfl) five (by omega) hat w');have hq2 : ¬ five.toList = [] := by rw [toList_data]; exact hne
  have hq4 : five.toList.isEmpty = false := by rw [toList_data]; simpa using hne
  clear hl h9 hne hat;generalize (fieldsG five 380).map Got.bits = rd at *;go_enter Tryz.func137, Tryz.ntmps137;go_wp2_with fail
  refine (HD.out _).mono ?_;rintro e w1 ⟨rfl, hd1⟩;have HR1 := Lib.hid (HR0.out.below hd1.below);have HB1 := Lib.hid (below_of_le HB0.out hd1.below);clear HR0 HB0 hd1;go_wp2_with fail
  refine (HP.out _).mono ?_;rintro e w2 ⟨⟨cs, v, rfl, hn, h1, hv⟩, hb2⟩;have HB2 := Lib.hid (below_of_le HB1.out hb2);have HV := Lib.hid hv;obtain ⟨ca, hca, hna, h1a⟩ := HR1.out.below hb2;clear HR1 HB1 hb2 hv;go_wp2_with (refine wpList_store_row rfl 99 _ _ rfl w.heap.size cs rfl rfl _ _ hca (by rw [sizeM, hn]) (by rw [hna, hn]) h1 ?_)
  refine bodyPost_ret (v := .tuple #[.agg cs, .int .i64 v]) ?_ rfl ?_
  ·exact results_M (fn := Tryz.f137) (p := 2) (u := 3) rfl _ _ w.heap.size _ hn rfl (setRow_heap _ _ _ _ _ _ hca)
  exact ⟨_, ⟨cs, v, rfl, hn, h1, HV.out⟩, below_setRow HB2.out (by omega) _⟩
 have HBG := Lib.hid (fun w' => spec_cronBegins.calls (ba l) ⟨#[64, 101, 118, 101, 114, 121, 32]⟩ _ w' ((begins_f (ba l) ⟨#[64, 101, 118, 101, 114, 121, 32]⟩).trans (by rw [show (⟨#[64, 101, 118, 101, 114, 121, 32]⟩ : ByteArray).data.toList = [64, 101, 118, 101, 114, 121, 32] from rfl, ba_list])));cases hpre : Lib.hasPrefix l [64, 101, 118, 101, 114, 121, 32] with
 | true =>
  rw [hpre] at HBG;have hle := prefix_len hpre;have hsl : ∀ w' : World, (Instr.slice 9 (.string (ba l)) (some (.int .i64 7)) none none).run Tryz.prog w' = .ok (.string (ba (l.drop 7))) w' := fun w' => str_from l 7 hle w'
  have HDU := Lib.hid (fun w' => Dur.durW_any (l.drop 7) (by rw [List.length_drop]; omega) w');generalize ba (l.drop 7) = sd at *;clear hpre hl hle;go_enter Tryz.func137, Tryz.ntmps137;go_wp2_with fail
  refine (HD.out _).mono ?_;rintro e w1 ⟨rfl, hd1⟩;have HR1 := Lib.hid (HR0.out.below hd1.below);have HB1 := Lib.hid (below_of_le HB0.out hd1.below);clear HR0 HB0 hd1;go_wp2_with fail
  refine (HBG.out _).mono ?_;rintro e w2 ⟨rfl, hd2⟩;have HR2 := Lib.hid (HR1.out.below hd2.below);have HB2 := Lib.hid (below_of_le HB1.out hd2.below);clear HR1 HB1 hd2;go_wp2_with fail
  refine (HDU.out _).mono ?_;rintro e w3 ⟨D, V, rfl, hV, hb3⟩;have HR3 := Lib.hid (HR2.out.below hb3);have HB3 := Lib.hid (below_of_le HB2.out hb3);clear HR2 HB2 hb3;by_cases h1 : V = 1
  ·subst h1;obtain ⟨E, hE⟩ := delay_ex D;have HDE := Lib.hid (fun w' => spec_CronDelay.calls D _ w' hE);go_wp2_with fail
   refine (HDE.out _).mono ?_;rintro e w4 ⟨rfl, hd4⟩;obtain ⟨ca, hca, hna, h1a⟩ := HR3.out.below hd4.below;have HB4 := Lib.hid (below_of_le HB3.out hd4.below);clear HR3 HB3 hd4 hE;go_wp2_with (first | (refine wpList_build_delay rfl _ rfl E rfl ?_) | (refine wpList_store_row rfl 99 _ _ rfl w.heap.size (delayM E) rfl rfl _ _ hca (by rw [sizeM, delayM_size]) (by rw [hna, delayM_size]) (delayM_one _) ?_))
   refine bodyPost_ret (v := .tuple #[.agg (delayM E), .int .i64 1]) ?_ rfl ?_
   ·exact results_M (fn := Tryz.f137) (p := 2) (u := 3) rfl _ _ w.heap.size _ (delayM_size _) rfl (setRow_heap _ _ _ _ _ _ hca)
   exact ⟨some (.delay E), ⟨delayM E, 1, rfl, delayM_size _, delayM_one _, .inr (.inl rfl), fun h => (by omega), fun _ => ⟨_, rfl, delayM_0 _, delayM_1 _⟩⟩, below_setRow HB4.out (by omega) _⟩
  ·have hVne : (V != 1) = true := by simpa using h1
   have hV2 : V = 0 ∨ V = 2 := by omega
   obtain ⟨ca, hca, hna, h1a⟩ := HR3.out;clear HR3 h1;go_wp2_with (first | (refine wpList_build_M rfl rfl ?_) | (refine wpList_store_row rfl 99 _ _ rfl w.heap.size zeroM rfl rfl _ _ hca (by rw [sizeM, zeroM_size]) (by rw [hna, zeroM_size]) zeroM_one ?_))
   refine bodyPost_ret (v := .tuple #[.agg zeroM, .int .i64 V]) ?_ rfl ?_
   ·exact results_M (fn := Tryz.f137) (p := 2) (u := 3) rfl _ _ w.heap.size _ zeroM_size rfl (setRow_heap _ _ _ _ _ _ hca)
   exact askM_no hV2 (below_setRow HB3.out (by omega) _)
 | false =>
  rw [hpre] at HBG;have hsz : (ba l).size ≤ 4294967296 := by rw [ba_size]; exact hl
  obtain ⟨R, hRl, hW⟩ := wordsG_any (ba l) hsz;obtain ⟨bf, hbf, -⟩ := foreignB_f (ba l) hsz;have HW := Lib.hid hW;have HF := Lib.hid (fun w' => spec_cronForeign.calls _ (ba l) bf w' hbf);clear hpre hl hW hbf hsz;go_enter Tryz.func137, Tryz.ntmps137;go_wp2_with fail
  refine (HD.out _).mono ?_;rintro e w1 ⟨rfl, hd1⟩;have HR1 := Lib.hid (HR0.out.below hd1.below);have HB1 := Lib.hid (below_of_le HB0.out hd1.below);clear HR0 HB0 hd1;go_wp2_with fail
  refine (HBG.out _).mono ?_;rintro e w2 ⟨rfl, hd2⟩;have HR2 := Lib.hid (HR1.out.below hd2.below);have HB2 := Lib.hid (below_of_le HB1.out hd2.below);clear HR1 HB1 hd2;go_wp2_with fail
  refine (HW.out _).mono ?_;rintro e w3 ⟨⟨A, c, rfl, hS⟩, hb3⟩;have HR3 := Lib.hid (HR2.out.below hb3);have HB3 := Lib.hid (below_of_le HB2.out hb3);clear HR2 HB2 hb3;go_wp2_with fail
  refine (HF.out _).mono ?_;rintro e w4 ⟨rfl, hd4⟩;obtain ⟨ca, hca, hna, h1a⟩ := HR3.out.below hd4.below;have HB4 := Lib.hid (below_of_le HB3.out hd4.below);have HS4 := Lib.hid (hS.below hd4.below);clear HR3 HB3 hd4 hS
  have hR1 : (bf = true) ∨ (bf = false ∧ R.length ≠ 1) ∨ (bf = false ∧ ∃ x, R = [x]) := by
   cases bf with
   | true => exact .inl rfl
   | false =>
    by_cases h : R.length = 1
    ·exact .inr (.inr ⟨rfl, List.length_eq_one_iff.1 h⟩)
    ·exact .inr (.inl ⟨rfl, h⟩)
  rcases hR1 with rfl | ⟨rfl, hR1⟩ | ⟨rfl, x, rfl⟩
  ·go_wp2_with (first | (refine wpList_build_M rfl rfl ?_) | (refine wpList_store_row rfl 99 _ _ rfl w.heap.size zeroM rfl rfl _ _ hca (by rw [sizeM, zeroM_size]) (by rw [hna, zeroM_size]) zeroM_one ?_))
   refine bodyPost_ret (v := .tuple #[.agg zeroM, .int .i64 2]) ?_ rfl ?_
   ·exact results_M (fn := Tryz.f137) (p := 2) (u := 3) rfl _ _ w.heap.size _ zeroM_size rfl (setRow_heap _ _ _ _ _ _ hca)
   exact askM_no (.inr rfl) (below_setRow HB4.out (by omega) _)
  ·have hq : ((R.length : Int) == 1) = false := by rw [beq_eq_false_iff_ne]; omega
   go_wp2_with (first | (refine wpList_build_M rfl rfl ?_) | (refine wpList_store_row rfl 99 _ _ rfl w.heap.size zeroM rfl rfl _ _ hca (by rw [sizeM, zeroM_size]) (by rw [hna, zeroM_size]) zeroM_one ?_))
   refine bodyPost_ret (v := .tuple #[.agg zeroM, .int .i64 0]) ?_ rfl ?_
   ·exact results_M (fn := Tryz.f137) (p := 2) (u := 3) rfl _ _ w.heap.size _ zeroM_size rfl (setRow_heap _ _ _ _ _ _ hca)
   exact askM_no (.inl rfl) (below_setRow HB4.out (by omega) _)
  ·obtain ⟨g, rfl, hglt, hgc⟩ := HS4.out 0 x rfl;by_cases hlt : (x.size : Int) < (ba l).size
   ·have hdl : decide ((x.size : Int) < (ba l).size) = true := decide_eq_true hlt;go_wp2_with (first | (refine wpList_build_M rfl rfl ?_) | (refine wpList_store_row rfl 99 _ _ rfl w.heap.size zeroM rfl rfl _ _ hca (by rw [sizeM, zeroM_size]) (by rw [hna, zeroM_size]) zeroM_one ?_))
    refine bodyPost_ret (v := .tuple #[.agg zeroM, .int .i64 2]) ?_ rfl ?_
    ·exact results_M (fn := Tryz.f137) (p := 2) (u := 3) rfl _ _ w.heap.size _ zeroM_size rfl (setRow_heap _ _ _ _ _ _ hca)
    exact askM_no (.inr rfl) (below_setRow HB4.out (by omega) _)
   ·have hdl : decide ((x.size : Int) < (ba l).size) = false := decide_eq_false hlt;go_wp2_with (first | (refine wpList_build_M rfl rfl ?_) | (refine wpList_store_row rfl 99 _ _ rfl w.heap.size zeroM rfl rfl _ _ hca (by rw [sizeM, zeroM_size]) (by rw [hna, zeroM_size]) zeroM_one ?_))
    refine bodyPost_ret (v := .tuple #[.agg zeroM, .int .i64 0]) ?_ rfl ?_
    ·exact results_M (fn := Tryz.f137) (p := 2) (u := 3) rfl _ _ w.heap.size _ zeroM_size rfl (setRow_heap _ _ _ _ _ _ hca)
    exact askM_no (.inl rfl) (below_setRow HB4.out (by omega) _)
set_option maxRecDepth 100000 in
set_option maxHeartbeats 4000000 in
theorem plainAsk_any (o : Nat) (ho : o < 512) (h2 : twoB o = false) (s : ByteArray) (hs : s.size ≤ 4294967296) (w : World) :
  Calls Tryz.prog 89 #[.int .i64 o, .string s] w (AskM w) := by
 cases hat : Lib.hasPrefix s.data.toList [64] with
 | false =>
  exact (cronPlainP_any o ho h2 s hs hat w).mono fun e w' h => ⟨_, h⟩
 | true =>
  have HB := Lib.hid (fun w' => spec_cronBegins.calls s ⟨#[64]⟩ _ w' ((begins_f s ⟨#[64]⟩).trans (by rw [show (⟨#[64]⟩ : ByteArray).data.toList = [64] from rfl, hat])));have hand : bits .and .i64 (o : Int) 256 = ((o &&& 256 : Nat) : Int) := and_i64 (b := 256) (by omega) (by decide);have HD := Lib.hid (fun w' => descAsk_any s.data.toList (by rw [← size_list]; exact hs) w');rw [ba_of] at HD;have hal := run_alloc_M;clear hat h2;go_enter Tryz.func89, Tryz.ntmps89;go_wp2_with fail
  have HR0 := Lib.hid (zeroM_row w);have HB0 : Hid (Below w.heap.size w (w.alloc (.cells zeroM 99))) := Lib.hid ((Below.refl _ _).alloc (Nat.le_refl _) _);refine (HB.out _).mono ?_;rintro e w1 ⟨rfl, hd1⟩;have HR1 := Lib.hid (HR0.out.below hd1.below);have HB1 := Lib.hid (below_of_le HB0.out hd1.below);clear HR0 HB0 hd1;by_cases h256 : o &&& 256 = 0
  ·have hdz : (((o &&& 256 : Nat) : Int) == 0) = true := by rw [h256]; rfl
   obtain ⟨ca, hca, hna, h1a⟩ := HR1.out;clear h256;go_wp2_with (first | (refine wpList_build_M rfl rfl ?_) | (refine wpList_store_row rfl 99 _ _ rfl w.heap.size zeroM rfl rfl _ _ hca (by rw [sizeM, zeroM_size]) (by rw [hna, zeroM_size]) zeroM_one ?_))
   refine bodyPost_ret (v := .tuple #[.agg zeroM, .int .i64 0]) ?_ rfl ?_
   ·exact results_M (fn := Tryz.f89) (p := 4) (u := 5) rfl _ _ w.heap.size _ zeroM_size rfl (setRow_heap _ _ _ _ _ _ hca)
   exact askM_no (.inl rfl) (below_setRow HB1.out (by omega) _)
  ·have hdz : (((o &&& 256 : Nat) : Int) == 0) = false := by rw [beq_eq_false_iff_ne]; omega
   clear h256;go_wp2_with fail
   refine (HD.out _).mono ?_;rintro e w2 ⟨rr, ⟨cs, v, rfl, hn, h1, hv⟩, hb2⟩;have HB2 := Lib.hid (below_of_le HB1.out hb2);have HV := Lib.hid hv;obtain ⟨ca, hca, hna, h1a⟩ := HR1.out.below hb2;clear HR1 HB1 hb2 hv;go_wp2_with (refine wpList_store_row rfl 99 _ _ rfl w.heap.size cs rfl rfl _ _ hca (by rw [sizeM, hn]) (by rw [hna, hn]) h1 ?_)
   refine bodyPost_ret (v := .tuple #[.agg cs, .int .i64 v]) ?_ rfl ?_
   ·exact results_M (fn := Tryz.f89) (p := 4) (u := 5) rfl _ _ w.heap.size _ hn rfl (setRow_heap _ _ _ _ _ _ hca)
   exact ⟨_, ⟨cs, v, rfl, hn, h1, HV.out⟩, below_setRow HB2.out (by omega) _⟩
set_option maxRecDepth 100000 in
set_option maxHeartbeats 8000000 in
theorem parseAskP_any (o : Nat) (ho : o < 512) (h2 : twoB o = false) (l : List UInt8) (hl : l.length ≤ 4294967296) (hsp : zoneZ (ba l) ≠ 0 → (32 : UInt8) ∈ l) (w : World) :
  Calls Tryz.prog 43 #[.int .i64 o, .string (ba l)] w (AskM w) := by
 have el : (ba l).toList = l := by rw [toList_data, ba_list]
 have hsz := ba_size l;have HZ := Lib.hid (fun w' => zoneHead_any (ba l) w');have hal := run_alloc_M;have HR0 := Lib.hid (zeroM_row w);have HB0 : Hid (Below w.heap.size w (w.alloc (.cells zeroM 99))) := Lib.hid ((Below.refl _ _).alloc (Nat.le_refl _) _);by_cases hz : zoneZ (ba l) = 0
 ·rw [hz] at HZ;by_cases h0 : l = []
  ·have HT : Hid (progS o (ba l) = none) := Lib.hid (by unfold progS; rw [if_pos (by rw [hsz, h0]; rfl)]);have hq : (ba l).toList = [] := by rw [el, h0]
   clear hl hz hsp el hsz h0 h2;go_enter Tryz.func43, Tryz.ntmps43;go_wp2_with fail
   refine (HZ.out _).mono ?_;rintro e w1 ⟨rfl, hb1⟩;obtain ⟨ca, hca, hna, h1a⟩ := HR0.out.below hb1;have HB1 := Lib.hid (below_of_le HB0.out hb1);clear HR0 HB0 hb1;go_wp2_with (first | (refine wpList_build_M rfl rfl ?_) | (refine wpList_store_row rfl 99 _ _ rfl w.heap.size zeroM rfl rfl _ _ hca (by rw [sizeM, zeroM_size]) (by rw [hna, zeroM_size]) zeroM_one ?_))
   refine bodyPost_ret (v := .tuple #[.agg zeroM, .int .i64 0]) ?_ rfl ?_
   ·exact results_M (fn := Tryz.f43) (p := 4) (u := 5) rfl _ _ w.heap.size _ zeroM_size rfl (setRow_heap _ _ _ _ _ _ hca)
   exact askM_no (.inl rfl) (below_setRow HB1.out (by omega) _)
  ·have HT : Hid (progS o (ba l) = plainG o (ba l)) := Lib.hid (by
    unfold progS;rw [if_neg (by rw [hsz]; intro h; exact h0 (List.length_eq_zero_iff.1 h)), if_pos hz])
   have hq : ¬ (ba l).toList = [] := by rw [el]; exact h0
   have hq2 : ((ba l).toList == []) = false := by rw [beq_eq_false_iff_ne]; exact hq
   have hq3 : (ba l).toList.isEmpty = false := by rw [el]; simpa using h0
   have HP := Lib.hid (fun w' => plainAsk_any o ho h2 (ba l) (by rw [hsz]; exact hl) w');clear hl hz hsp el hsz h0 h2;go_enter Tryz.func43, Tryz.ntmps43;go_wp2_with fail
   refine (HZ.out _).mono ?_;rintro e w1 ⟨rfl, hb1⟩;have HR1 := Lib.hid (HR0.out.below hb1);have HB1 := Lib.hid (below_of_le HB0.out hb1);clear HR0 HB0 hb1;go_wp2_with fail
   refine (HP.out _).mono ?_;rintro e w2 ⟨rr, ⟨cs, v, rfl, hn, h1, hv⟩, hb2⟩;have HB2 := Lib.hid (below_of_le HB1.out hb2);have HV := Lib.hid hv;obtain ⟨ca, hca, hna, h1a⟩ := HR1.out.below hb2;clear HR1 HB1 hb2 hv;go_wp2_with (refine wpList_store_row rfl 99 _ _ rfl w.heap.size cs rfl rfl _ _ hca (by rw [sizeM, hn]) (by rw [hna, hn]) h1 ?_)
   refine bodyPost_ret (v := .tuple #[.agg cs, .int .i64 v]) ?_ rfl ?_
   ·exact results_M (fn := Tryz.f43) (p := 4) (u := 5) rfl _ _ w.heap.size _ hn rfl (setRow_heap _ _ _ _ _ _ hca)
   exact ⟨_, ⟨cs, v, rfl, hn, h1, HV.out⟩, below_setRow HB2.out (by omega) _⟩
 ·have hm := hsp hz;have hzl := zone_le (ba l) hz (by rw [ba_list]; exact hm);have hspd : spaceAt (ba l) = (l.takeWhile (fun c => c != 32)).length := by unfold spaceAt; rw [ba_list]
  obtain ⟨hs1, hs2, hs3⟩ := space_facts l hm;rw [← hspd] at hs1 hs2 hs3
  have hse : spaceAt (ba l) ≤ (ba l).size := by rw [hsz]; omega
  have hne0 : ¬ (ba l).size = 0 := by rw [hsz]; omega
  have hin : spaceIn (ba l) = true := by
   unfold spaceIn;rw [ba_list, List.any_eq_true];exact ⟨32, hm, rfl⟩
  have HNA := Lib.hid (fun w' => noAnswer_any l hl w');rw [hin] at HNA;have hsub := str_sub (ba l) (zoneZ (ba l)) (spaceAt (ba l)) hzl hse;have hrest := str_from' (ba l) (spaceAt (ba l)) hse;have hname : ((ba l).extract (zoneZ (ba l)) (spaceAt (ba l))).size ≤ 4294967296 := by rw [ByteArray.size_extract]; omega
  obtain ⟨KZ, u, vz, z1, z2, z3, z4⟩ := zname_f _ hname;have HZN := Lib.hid (fun w' => spec_CronZoneName.calls KZ _ u vz w' z1)
  have hrl : ((ba l).extract (spaceAt (ba l)) (ba l).size) = ba (l.drop (spaceAt (ba l))) := by
   rw [← ba_of ((ba l).extract _ _), extract_list, ba_list, hsz, List.take_length]
  obtain ⟨KT, ht⟩ := trim_l0 (l.drop (spaceAt (ba l))) (by rw [List.length_drop]; omega);have HTR := Lib.hid (fun w' => spec_CronTrim.calls KT (ba (l.drop (spaceAt (ba l)))) _ w' ht);rw [← hrl] at HTR
  have htl : (ba (trimL (l.drop (spaceAt (ba l))))).size ≤ 4294967296 := by
   have : (trimL (l.drop (spaceAt (ba l)))).length ≤ (l.drop (spaceAt (ba l))).length := by
    unfold trimL trimR;rw [List.length_reverse];have a1 := (List.dropWhile_suffix (l := ((l.drop (spaceAt (ba l))).dropWhile blankB).reverse) blankB).length_le;have a2 := (List.dropWhile_suffix (l := l.drop (spaceAt (ba l))) blankB).length_le;rw [List.length_reverse] at a1;omega
   rw [ba_size];rw [List.length_drop] at this;omega
  have htZ := trim_same (l.drop (spaceAt (ba l)));obtain ⟨bf, hbf, hasc⟩ := foreignB_f _ htl;have HF := Lib.hid (fun w' => spec_cronForeign.calls _ _ bf w' hbf);have HP := Lib.hid (fun w' => plainAsk_any o ho h2 (ba (trimL (l.drop (spaceAt (ba l))))) htl w');have HZ3 : Hid ((vz = 0 ∨ vz = 1 ∨ vz = 2) ∧ (vz = 0 → zoneOk ((ba l).extract (zoneZ (ba l)) (spaceAt (ba l))).data.toList = false) ∧ (vz = 1 → zoneOk ((ba l).extract (zoneZ (ba l)) (spaceAt (ba l))).data.toList = true)) := Lib.hid ⟨z2, z3, z4⟩;have HZpos : Hid (decide (0 < zoneZ (ba l)) = true) := Lib.hid (decide_eq_true (by omega));have hzne : (((zoneZ (ba l) : Nat) : Int) == 0) = false := by rw [beq_eq_false_iff_ne]; omega
  clear htZ hasc hbf htl ht hrl z1 z2 z3 z4 hname hin hm hspd hsp hne0;have HZ9 := Lib.hid HZ3.out.1;clear HZ3;generalize ba (trimL (l.drop (spaceAt (ba l)))) = tx at *;generalize (ba l).extract (spaceAt (ba l)) (ba l).size = rs at *;generalize (ba l).extract (zoneZ (ba l)) (spaceAt (ba l)) = nm at *;generalize spaceAt (ba l) = m at *;generalize zoneZ (ba l) = z at *;clear hse h2 el;go_enter Tryz.func43, Tryz.ntmps43;go_wp2_with fail
  refine (HZ.out _).mono ?_;rintro e w1 ⟨rfl, hb1⟩;have HR1 := Lib.hid (HR0.out.below hb1);have HB1 := Lib.hid (below_of_le HB0.out hb1);clear HR0 HB0 hb1 HZ;go_wp2_with fail
  refine (HNA.out _).mono ?_;rintro e w2 ⟨rfl, hb2⟩;have HR2 := Lib.hid (HR1.out.below hb2);have HB2 := Lib.hid (below_of_le HB1.out hb2);clear HR1 HB1 hb2 HNA HZpos;go_wp2_with fail
  go_loopw [7] (fun v7 wr => ∃ (a : Nat), v7 = .int .i64 a ∧ z ≤ a ∧ a ≤ m ∧ Hid (RowN wr w.heap.size 99 387) ∧ Hid (Below w.heap.size w wr)) (fun v7 _ => m - (intOf v7).toNat)
  case atStart => exact ⟨z, rfl, Nat.le_refl _, hzl, HR2, HB2⟩
  case round =>
   obtain ⟨a, rfl, ha1, ha2, HR, HB⟩ := hrel;clear HR2 HB2;have hal2 : a < l.length := by omega
   have hix := fun w' => str_at l a hal2 w'
   by_cases ham : a < m
   ·have h32 := hs2 a hal2 ham
    have hq1 : (((l[a].toNat : Nat) : Int) == 32) = false := by
     rw [beq_eq_false_iff_ne];intro h;exact h32 (UInt8.toNat_inj.1 (by show l[a].toNat = 32; omega))
    have hq2 : (((l[a].toNat : Nat) : Int) != 32) = true := by rw [bne, hq1]; rfl
    go_wp2_with fail
    go_roundw
    case rel => exact ⟨a + 1, by go_num, by omega, by omega, HR, HB⟩
    case measure => simp [intOf]; omega
   ·obtain rfl : a = m := by omega
    have h32 := hs3 hal2;have hq1 : (((l[a].toNat : Nat) : Int) == 32) = true := by rw [h32]; rfl
    have hq2 : (((l[a].toNat : Nat) : Int) != 32) = false := by rw [bne, hq1]; rfl
    clear hs2 hs3 h32;go_wp2_with fail
    refine (HZN.out _).mono ?_;rintro e w3 ⟨rfl, hb3⟩;have HR3 := Lib.hid (HR.out.below hb3.below);have HB3 := Lib.hid (below_of_le HB.out hb3.below);clear HR HB hb3 HZN hsub;go_wp2_with fail
    refine (HTR.out _).mono ?_;rintro e w4 ⟨rfl, hb4⟩;have HR4 := Lib.hid (HR3.out.below hb4.below);have HB4 := Lib.hid (below_of_le HB3.out hb4.below);clear HR3 HB3 hb4 HTR hrest;go_wp2_with fail
    refine (HF.out _).mono ?_;rintro e w5 ⟨rfl, hb5⟩;have HR5 := Lib.hid (HR4.out.below hb5.below);have HB5 := Lib.hid (below_of_le HB4.out hb5.below);clear HR4 HB4 hb5 HF;by_cases hbf : bf = true
    ·subst hbf;obtain ⟨v3, g1, g2, g3, g4, _, _⟩ := worse_f vz 2 HZ9.out (.inr (.inr rfl));have HWO := Lib.hid (fun w' => spec_worse.calls vz 2 v3 w' g1);have HV3 : Hid (v3 = 0 ∨ v3 = 2) := Lib.hid (by have h2 := g2; have h4 : v3 ≠ 1 := (fun h => (by have := (g4 h).2; omega)); omega);clear g1 g2 g3 g4;go_wp2_with fail
     go_wp2_with (first | (refine wpList_build_M rfl rfl ?_))
     refine (HWO.out _).mono ?_;rintro e w6 ⟨rfl, hb6⟩;obtain ⟨ca, hca, hna, h1a⟩ := HR5.out.below hb6;have HB6 := Lib.hid (below_of_le HB5.out hb6);clear HR5 HB5 hb6;go_wp2_with (first | (refine wpList_build_M rfl rfl ?_) | (refine wpList_store_row rfl 99 _ _ rfl w.heap.size zeroM rfl rfl _ _ hca (by rw [sizeM, zeroM_size]) (by rw [hna, zeroM_size]) zeroM_one ?_))
     refine bodyPost_ret (v := .tuple #[.agg zeroM, .int .i64 v3]) ?_ rfl ?_
     ·exact results_M (fn := Tryz.f43) (p := 4) (u := 5) rfl _ _ w.heap.size _ zeroM_size rfl (setRow_heap _ _ _ _ _ _ hca)
     exact askM_no HV3.out (below_setRow HB6.out (by omega) _)
    ·obtain rfl : bf = false := by simpa using hbf
     clear hbf;go_wp2_with fail
     refine (HP.out _).mono ?_;rintro e w6 ⟨rr, ⟨cs, v, rfl, hn, h1, hv, hv0, hv1⟩, hb6⟩;have HR6 := Lib.hid (HR5.out.below hb6);have HB6 := Lib.hid (below_of_le HB5.out hb6);clear HR5 HB5 hb6;obtain ⟨v3, g1, g2, g3, g4, _, _⟩ := worse_f vz v HZ9.out hv;have HWO := Lib.hid (fun w' => spec_worse.calls vz v v3 w' g1);have HV3 : Hid ((v3 = 0 ∨ v3 = 1 ∨ v3 = 2) ∧ (v3 = 1 → ∃ g, rr = some g ∧ MeanOf cs g)) := Lib.hid ⟨g2, fun h => hv1 (g4 h).2⟩;clear g1 g2 g3 g4 hv hv0 hv1;go_wp2_with (first | (refine wpList_store_row rfl 99 _ _ rfl w6.heap.size cs rfl rfl _ _ (heap_alloc_new w6 _) (by rw [sizeM, hn]) (Eq.trans (b := 387) (by kernel_rfl) hn.symm) h1 ?_; generalize hW : World.setRow (World.alloc w6 _) _ _ = wL; have HWL := Lib.hid (show wL.heap[w6.heap.size]? = some (.cells cs 99 (0, 0)) ∧ RowN wL w.heap.size 99 387 ∧ Below w.heap.size w wL ∧ w.heap.size < w6.heap.size by rw [← hW]; exact ⟨setRow_heap _ _ _ _ _ _ (heap_alloc_new w6 _), (HR6.out.below ((Below.refl _ _).alloc (Nat.le_refl _) _)).other (by have := HR6.out.lt; omega) _, below_setRow (HB6.out.alloc HB6.out.size _) HB6.out.size _, HR6.out.lt⟩); clear hW))
     refine (HWO.out _).mono ?_;rintro e w7 ⟨rfl, hb7⟩;have HR7 := Lib.hid (HWL.out.2.1.below hb7);have HB7 := Lib.hid (below_of_le HWL.out.2.2.1 hb7);have HROW := Lib.hid ((hb7.block w6.heap.size (Array.getElem?_eq_some_iff.1 HWL.out.1).1).trans HWL.out.1);have hgm := HWL.out.2.2.2;clear HR6 HB6 HWL hb7;generalize w6.heap.size = gm at *;by_cases hv3 : v3 = 1
     ·subst hv3;obtain ⟨g, e1, e2⟩ := HV3.out.2 rfl;have HME := Lib.hid e2;obtain ⟨be, hbe⟩ := e2.every;have hc0 : w7.cell? ⟨gm, 0, none⟩ = some (.bool be) := (cell_of_row _ _ _ _ _ _ HROW.out).trans hbe;obtain ⟨x3, hx3⟩ : ∃ x, cs[386]? = some x := ⟨cs[386]'(by omega), Array.getElem?_eq_getElem (by omega)⟩
      have hc3 : w7.cell? ⟨gm, 386, none⟩ = some x3 := (cell_of_row _ _ _ _ _ _ HROW.out).trans hx3;have hf3 : w7.frozen? ⟨gm, 386, none⟩ = false := frozen_of_row _ _ _ _ _ HROW.out;obtain ⟨ca, hca, hna, h1a⟩ := HR7.out;have HRS : Hid (∀ b, (w7.setCell ⟨gm, 386, none⟩ (.bool b)).heap[gm]? = some (.cells (cs.setIfInBounds 386 (.bool b)) 99 (0, 0))) := Lib.hid fun b => heap_setCell_same w7 gm 386 cs _ _ HROW.out
      have HCA : Hid (∀ b, (w7.setCell ⟨gm, 386, none⟩ (.bool b)).heap[w.heap.size]? = some (.cells ca 99 (0, 0))) := Lib.hid fun b => (heap_setCell_other w7 ⟨gm, 386, none⟩ w.heap.size _ (by show w.heap.size ≠ gm; omega)).trans hca
      clear hbe hx3 e1 e2 HV3 HROW HR7 hca;cases u with
      | true =>
       go_wp2_with (first | (refine wpList_load_row rfl 99 _ rfl gm rfl _ _ _ _ (HRS.out (!be)) Tryz.underlying99 rfl (by rw [sizeM, Array.size_setIfInBounds, hn]) ?_) | (refine wpList_store_row rfl 99 _ _ rfl w.heap.size (cs.setIfInBounds 386 (.bool (!be))) rfl rfl _ _ (HCA.out (!be)) (by rw [sizeM, Array.size_setIfInBounds, hn]) (by rw [hna, Array.size_setIfInBounds, hn]) (set_one h1 _ _) ?_))
       refine bodyPost_ret (v := .tuple #[.agg (cs.setIfInBounds 386 (.bool (!be))), .int .i64 1]) ?_ rfl ?_
       ·exact results_M (fn := Tryz.f43) (p := 4) (u := 5) rfl _ _ w.heap.size _ (by rw [Array.size_setIfInBounds, hn]) rfl (setRow_heap _ _ _ _ _ _ (HCA.out (!be)))
       exact ⟨some g, ⟨cs.setIfInBounds 386 (.bool (!be)), 1, rfl, by rw [Array.size_setIfInBounds, hn], set_one h1 _ _, .inr (.inl rfl), fun h => (by omega), fun _ => ⟨g, rfl, HME.out.utc _ hn⟩⟩, below_setRow (HB7.out.setCell (show w.heap.size ≤ gm by omega) _) (by omega) _⟩
      | false =>
       go_wp2_with (first | (refine wpList_load_row rfl 99 _ rfl gm rfl _ _ _ _ (HRS.out false) Tryz.underlying99 rfl (by rw [sizeM, Array.size_setIfInBounds, hn]) ?_) | (refine wpList_store_row rfl 99 _ _ rfl w.heap.size (cs.setIfInBounds 386 (.bool false)) rfl rfl _ _ (HCA.out false) (by rw [sizeM, Array.size_setIfInBounds, hn]) (by rw [hna, Array.size_setIfInBounds, hn]) (set_one h1 _ _) ?_))
       refine bodyPost_ret (v := .tuple #[.agg (cs.setIfInBounds 386 (.bool false)), .int .i64 1]) ?_ rfl ?_
       ·exact results_M (fn := Tryz.f43) (p := 4) (u := 5) rfl _ _ w.heap.size _ (by rw [Array.size_setIfInBounds, hn]) rfl (setRow_heap _ _ _ _ _ _ (HCA.out false))
       exact ⟨some g, ⟨cs.setIfInBounds 386 (.bool false), 1, rfl, by rw [Array.size_setIfInBounds, hn], set_one h1 _ _, .inr (.inl rfl), fun h => (by omega), fun _ => ⟨g, rfl, HME.out.utc _ hn⟩⟩, below_setRow (HB7.out.setCell (show w.heap.size ≤ gm by omega) _) (by omega) _⟩
     ·have hne : (v3 != 1) = true := by simpa using hv3
      have HV1 := Lib.hid hv3;obtain ⟨ca, hca, hna, h1a⟩ := HR7.out;clear hv3 HROW HR7;go_wp2_with (first | (refine wpList_build_M rfl rfl ?_) | (refine wpList_store_row rfl 99 _ _ rfl w.heap.size zeroM rfl rfl _ _ hca (by rw [sizeM, zeroM_size]) (by rw [hna, zeroM_size]) zeroM_one ?_))
      refine bodyPost_ret (v := .tuple #[.agg zeroM, .int .i64 v3]) ?_ rfl ?_
      ·exact results_M (fn := Tryz.f43) (p := 4) (u := 5) rfl _ _ w.heap.size _ zeroM_size rfl (setRow_heap _ _ _ _ _ _ hca)
      exact askM_no (by have := HV3.out.1; have := HV1.out; omega) (below_setRow HB7.out (by omega) _)
end Go.Proofs.YtmecbmgfacpecaaGreatDoor.Cron
