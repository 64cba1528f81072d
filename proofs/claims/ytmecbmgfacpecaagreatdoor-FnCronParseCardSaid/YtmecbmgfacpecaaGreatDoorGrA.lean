/- Lemmas and walks on the way to the law, merged by wip/tools/pack.py: Base, Number, Laid, Split, SplitCalls, Bits. Conditions: none. -/
import Derived.Test.YtmecbmgfacpecaaGreatDoorProg
import Derived.WalkKit
import Derived.OwnWalk
import Derived.Lib.Hide
import Derived.Below
import Derived.WalkSmall
import Derived.WalkLawsBesides
import Derived.WalkSpells
import Derived.Test.YtmecbmgfacpecaaGreatDoorShelfT
import Derived.Lib.LaidU8
import Derived.MakeChecks
import Derived.Stop.Joined
import Derived.Test.YtmecbmgfacpecaaGreatDoorPrSplitT
import Derived.Test.YtmecbmgfacpecaaGreatDoorPrA
import Derived.Laws.BitsLemmas
namespace Go.Proofs.YtmecbmgfacpecaaGreatDoor.Cron
open Go Go.RowKit
theorem bcell {W w1 : World} (hb : Below W.heap.size W w1) : (∀ b o, b < W.heap.size → w1.cell? ⟨b, o, none⟩ = W.cell? ⟨b, o, none⟩) ∧ (∀ b o, b < W.heap.size → w1.frozen? ⟨b, o, none⟩ = W.frozen? ⟨b, o, none⟩) :=
 ⟨fun b o h => hb.cell (p := ⟨b, o, none⟩) h, fun b o h => hb.frozen (p := ⟨b, o, none⟩) h⟩
theorem below_of_le {W w1 w2 : World} (h1 : Below W.heap.size W w1) (h2 : Below w1.heap.size w1 w2) : Below W.heap.size W w2 :=
 h1.trans (h2.mono h1.size)
theorem errorsNew_any (s : ByteArray) (w : World) :
  Calls Tryz.prog 96 #[.string s] w fun e w' => ∃ t x, e = .returned (.iface t x) ∧ Below w.heap.size w w' := by
 go_enter Tryz.func96, Tryz.ntmps96
 go_wp2
 go_ret
 exact ⟨_, _, rfl, (Below.refl _ _).alloc (Nat.le_refl _) _⟩
end Go.Proofs.YtmecbmgfacpecaaGreatDoor.Cron
namespace Go.Proofs.YtmecbmgfacpecaaGreatDoor.Cron
open Go Go.RowKit
set_option linter.unusedVariables false
def G (w : World) : Prop :=
 (∃ tp p, w.var? Tryz.prog "strconv.ErrSyntax" = some #[.iface tp p]) ∧ (∃ tp p, w.var? Tryz.prog "strconv.ErrRange" = some #[.iface tp p])
theorem gSyntax : Tryz.prog.globalNamed "strconv.ErrSyntax" = some 7 := by kernel_rfl
theorem gRange : Tryz.prog.globalNamed "strconv.ErrRange" = some 8 := by kernel_rfl
theorem lt_of_var {w : World} {n : String} {g : Nat} {v : Value} (hg : Tryz.prog.globalNamed n = some g) (h : w.var? Tryz.prog n = some #[v]) : g < w.heap.size := by
 have := World.var?_cell hg h 0;exact Lib.lt_of_cell (show w.cell? ⟨g, 0, none⟩ = some v by simpa using this)
theorem G.below {w w' : World} (h : G w) (hb : Below w.heap.size w w') : G w' := by
 obtain ⟨⟨t, p, h1⟩, t', p', h2⟩ := h;exact ⟨⟨t, p, var?_below hb gSyntax (lt_of_var gSyntax h1) h1⟩, t', p', var?_below hb gRange (lt_of_var gRange h2) h2⟩
def mp (l : List UInt8) : Option Nat :=
 match Lib.atoiAll l with
 | .ok v => if 0 ≤ v then some v.toNat else none
 | _ => none
theorem mp_le {l : List UInt8} {n : Nat} (h : mp l = some n) : n ≤ 9223372036854775807 := by
 unfold mp at h
 split at h
 ·rename_i v hv
  have := Lib.atoiAll_bounds hv
  split at h
  ·injection h with h
   omega
  ·cases h
 ·cases h
theorem atoi_ok (s : ByteArray) (hs : s.size ≤ 281474976710656) (v : Int) (h : Lib.atoiAll s.data.toList = .ok v) (w : World) :
  Calls Tryz.prog 207 #[.string s] w fun e w' => e = .returned (.tuple #[.int .i64 v, .nilIface]) ∧ Below w.heap.size w w' :=
 (Tryz.strconv_Atoi_ok s (by omega) v h w).mono fun e w' ⟨he, hw⟩ => ⟨he, by
  rcases hw with rfl | ⟨t, rfl⟩
  ·exact Below.refl _ _
  ·exact Lib.bytesWorld_below _ _ _⟩
theorem atoi_bad (s : ByteArray) (hs : s.size ≤ 281474976710656) (h : ∀ v, Lib.atoiAll s.data.toList ≠ .ok v) (w : World) (hg : G w) :
  Calls Tryz.prog 207 #[.string s] w fun e w' => ∃ v t x, e = .returned (.tuple #[.int .i64 v, .iface t x]) ∧ Below w.heap.size w w' := by
 obtain ⟨⟨t, p, h1⟩, t', p', h2⟩ := hg
 rcases e : Lib.atoiAll s.data.toList with v | _ | _
 ·exact absurd e (h v)
 ·exact (Tryz.strconv_Atoi_syntax_var s hs h (by simp [e]) t p w h1).mono fun e w' ⟨N, he, _, _, hb⟩ => ⟨_, _, _, he, hb⟩
 ·exact (Tryz.strconv_Atoi_range_var s hs e t' p' w h2).mono fun e w' ⟨N, he, _, _, hb⟩ => ⟨_, _, _, he, hb⟩
theorem mustParse_ok (s : ByteArray) (hs : s.size ≤ 281474976710656) (n : Nat) (h : mp s.data.toList = some n) (w : World) :
  Calls Tryz.prog 181 #[.string s] w fun e w' => e = .returned (.tuple #[.int .u64 n, .nilIface]) ∧ Below w.heap.size w w' := by
 have hn := mp_le h
 have hv : Lib.atoiAll s.data.toList = .ok n := by
  unfold mp at h
  split at h
  ·rename_i v hv
   split at h
   ·injection h with h
    rw [hv, show (v : Int) = (n : Nat) by omega]
   ·cases h
  ·cases h
 have H := atoi_ok s hs n hv w;clear h hv
 go_enter Tryz.func181, Tryz.ntmps181
 go_wp2_with (go_at_call 207; refine H.mono ?_; rintro e w' ⟨rfl, hb⟩)
 go_ret2
 exact ⟨rfl, hb⟩
theorem mustParse_bad (s : ByteArray) (hs : s.size ≤ 281474976710656) (h : mp s.data.toList = none) (w : World) (hg : G w) :
  Calls Tryz.prog 181 #[.string s] w fun e w' => ∃ t x, e = .returned (.tuple #[.int .u64 0, .iface t x]) ∧ Below w.heap.size w w' := by
 by_cases hk : ∃ v, Lib.atoiAll s.data.toList = .ok v
 ·obtain ⟨v, hv⟩ := hk
  have hneg : v < 0 := by
   unfold mp at h;rw [hv] at h;simp at h;omega
  have H := atoi_ok s hs v hv w;clear h hv
  go_enter Tryz.func181, Tryz.ntmps181
  go_wp2_with (first | (go_at_call 207; refine H.mono ?_; rintro e w' ⟨rfl, hb⟩) | (go_at_call 96; refine (errorsNew_any _ _).mono ?_; rintro e w'' ⟨t, x, rfl, hb2⟩))
  go_ret2
  exact ⟨t, x, rfl, below_of_le hb hb2⟩
 ·have H := atoi_bad s hs (fun v hv => hk ⟨v, hv⟩) w hg;clear h hk
  go_enter Tryz.func181, Tryz.ntmps181
  go_wp2_with (first | (go_at_call 207; refine H.mono ?_; rintro e w' ⟨v, t, x, rfl, hb⟩) | (go_at_call 96; refine (errorsNew_any _ _).mono ?_; rintro e w'' ⟨t2, x2, rfl, hb2⟩))
  go_ret2
  exact ⟨t2, x2, rfl, below_of_le hb hb2⟩
theorem valueNil_ok (s : ByteArray) (hs : s.size ≤ 281474976710656) (n : Nat) (h : mp s.data.toList = some n) (w : World) :
  Calls Tryz.prog 180 #[.string s, .map none] w fun e w' => e = .returned (.tuple #[.int .u64 n, .nilIface]) ∧ Below w.heap.size w w' := by
 have hm := fun w : World => run_neq_map_nil (P := Tryz.prog) w 183 _ _ none Tryz.underlying183
 go_enter Tryz.func180, Tryz.ntmps180
 go_wp2_with (go_at_call 181; refine (mustParse_ok s hs n h _).mono ?_; rintro e w' ⟨rfl, hb⟩)
 go_ret2
 exact ⟨rfl, hb⟩
theorem valueNil_bad (s : ByteArray) (hs : s.size ≤ 281474976710656) (h : mp s.data.toList = none) (w : World) (hg : G w) :
  Calls Tryz.prog 180 #[.string s, .map none] w fun e w' => ∃ t x, e = .returned (.tuple #[.int .u64 0, .iface t x]) ∧ Below w.heap.size w w' := by
 have hm := fun w : World => run_neq_map_nil (P := Tryz.prog) w 183 _ _ none Tryz.underlying183
 go_enter Tryz.func180, Tryz.ntmps180
 go_wp2_with (go_at_call 181; refine (mustParse_bad s hs h _ hg).mono ?_; rintro e w' ⟨t, x, rfl, hb⟩)
 go_ret2
 exact ⟨t, x, rfl, hb⟩
end Go.Proofs.YtmecbmgfacpecaaGreatDoor.Cron
namespace Go.Proofs.YtmecbmgfacpecaaGreatDoor.Cron
open Go Go.RowKit
set_option linter.unusedVariables false
theorem iface_of_trod {H : Type} {enc : TypeId × Value → H} {P : Program} {w : World} {base : Nat} {sp : Nat → Bool} {held : Bool} {fuel : Nat} {t : TypeId} {ms : Array (String × TypeId)} {cs : List Value} {nm : String} {d : DataW H} {p : List MemPlace}
  (hu : P.underlying t = some (.interface ms)) (h : DataW.trod enc P w base sp held fuel t cs = some (.iface nm d, p)) : ∃ u v, cs = [.iface u v] := by
 cases fuel with
 | zero => cases h
 | succ n =>
  unfold DataW.trod at h;rw [hu] at h
  match cs, h with
  | [], h => simp at h
  | [c], h => cases c <;> first | exact ⟨_, _, rfl⟩ | (simp at h)
  | _ :: _ :: _, h => simp at h
theorem sentinel_reads {P : Program} {w : World} {n nm : String} {d : DataW Unit} {g : Nat} {t : TypeId} {ms : Array (String × TypeId)} (hg : P.globalNamed n = some g) (ht : (P.globals[g]?).map (·.type) = some t) (hu : P.underlying t = some (.interface ms))
  (h : Lib.VarReads P w n (.iface nm d)) : ∃ u v, w.var? P n = some #[.iface u v] := by
 obtain ⟨g', t', cs, fuel, p, hg', ht', hv, hd⟩ := h;obtain rfl := Option.some.inj (hg.symm.trans hg');obtain rfl := Option.some.inj (ht.symm.trans ht');obtain ⟨u, v, e⟩ := iface_of_trod hu hd;refine ⟨u, v, ?_⟩;rw [hv];obtain ⟨l⟩ := cs;simp only at e;rw [e]
theorem tSyntax : (Tryz.prog.globals[7]?).map (·.type) = some 112 := by kernel_rfl
theorem tRange : (Tryz.prog.globals[8]?).map (·.type) = some 112 := by kernel_rfl
theorem g_of_met {laid : List (String × DataW Unit)} {w : World} {nm1 nm2 : String} {d1 d2 : DataW Unit} (h : laidMet Tryz.prog laid w) (h1 : ("strconv.ErrSyntax", DataW.iface nm1 d1) ∈ laid) (h2 : ("strconv.ErrRange", DataW.iface nm2 d2) ∈ laid) : G w :=
 ⟨sentinel_reads gSyntax tSyntax Tryz.underlying112 (Lib.laidMet.reads h h1), sentinel_reads gRange tRange Tryz.underlying112 (Lib.laidMet.reads h h2)⟩
end Go.Proofs.YtmecbmgfacpecaaGreatDoor.Cron
namespace Go.Proofs.YtmecbmgfacpecaaGreatDoor.Text
open Go Go.RowKit Go.Proofs.YtmecbmgfacpecaaGreatDoorW.PrintWords Go.Proofs.YtmecbmgfacpecaaGreatDoor.Pr
set_option linter.unusedVariables false
def ba (l : List UInt8) : ByteArray := ⟨l.toArray⟩
theorem ba_size (l : List UInt8) : (ba l).size = l.length := by unfold ba ByteArray.size; exact List.size_toArray
theorem ba_list (l : List UInt8) : (ba l).data.toList = l := by simp [ba]
theorem ba_of (s : ByteArray) : ba s.data.toList = s := by simp [ba]
theorem size_list (s : ByteArray) : s.size = s.data.toList.length := (Array.length_toList (xs := s.data)).symm
theorem toList_data (s : ByteArray) : s.toList = s.data.toList := by
 have key : ∀ (n i : Nat) (r : List UInt8), s.size - i = n → ByteArray.toList.loop s i r = r.reverse ++ s.data.toList.drop i := by
  intro n
  induction n with
  | zero =>
   intro i r h;unfold ByteArray.toList.loop;rw [if_neg (by omega), List.drop_eq_nil_of_le (by rw [← size_list]; omega), List.append_nil]
  | succ n ih =>
   intro i r h;have hi : i < s.size := by omega
   unfold ByteArray.toList.loop;rw [if_pos hi, ih (i + 1) _ (by omega)];have hi' : i < s.data.toList.length := by rw [← size_list]; exact hi
   rw [List.drop_eq_getElem_cons hi', List.reverse_cons, List.append_assoc, List.singleton_append]
   have : s.get! i = s.data.toList[i] := by
    show s.data[i]! = _
    rw [getElem!_pos s.data i (by simpa using hi')];simp
   rw [this]
 have := key s.size 0 [] (by omega)
 simpa [ByteArray.toList] using this
theorem bt_list (s : ByteArray) (i : Nat) (h : i < s.data.toList.length) : bt s (i : Int) = ((s.data.toList[i]).toNat : Int) := by
 have h' : i < s.size := by rw [size_list]; exact h
 have := bt_at s (i : Int) (by simpa using h');rw [← this];simp only [Int.toNat_natCast];rfl
theorem extract_list (s : ByteArray) (a b : Nat) : (s.extract a b).data.toList = (s.data.toList.take b).drop a := by
 rw [ByteArray.data_extract, Array.toList_extract, List.extract_eq_take_drop, List.drop_take]
theorem extract_ba (s : ByteArray) (a b : Nat) : s.extract a b = ba ((s.data.toList.take b).drop a) := by
 rw [← extract_list, ba_of]
theorem ba_inj {a b : List UInt8} (h : ba a = ba b) : a = b := by
 have := congrArg (fun x => x.data.toList) h
 simpa [ba] using this
def splitL (c : UInt8) : List UInt8 → List (List UInt8)
 | [] => [[]]
 | x :: r => if x = c then [] :: splitL c r else match splitL c r with
  | h :: t => (x :: h) :: t
  | [] => [[x]]
def consHead (p : List UInt8) : List (List UInt8) → List (List UInt8)
 | h :: t => (p ++ h) :: t
 | [] => [p]
theorem splitL_ne (c : UInt8) (l : List UInt8) : splitL c l ≠ [] := by
 cases l with
 | nil => simp [splitL]
 | cons x r =>
  unfold splitL
  split
  ·simp
  ·split <;> simp
theorem splitL_cons_ne {c x : UInt8} (r : List UInt8) (h : x ≠ c) : splitL c (x :: r) = consHead [x] (splitL c r) := by
 rw [splitL, if_neg h]
 cases e : splitL c r <;> rfl
theorem splitL_cons_eq (c : UInt8) (r : List UInt8) : splitL c (c :: r) = [] :: splitL c r := by rw [splitL, if_pos rfl]
theorem consHead_nil {ls : List (List UInt8)} (h : ls ≠ []) : consHead [] ls = ls := by
 cases ls with
 | nil => exact absurd rfl h
 | cons a t => rfl
theorem consHead_cons (p q : List UInt8) (ls : List (List UInt8)) : consHead p (consHead q ls) = consHead (p ++ q) ls := by
 cases ls <;> simp [consHead]
theorem splitL_none {c : UInt8} : ∀ {l : List UInt8}, c ∉ l → splitL c l = [l]
 | [], _ => rfl
 | x :: r, h => by
  have h1 : x ≠ c := fun e => h (by simp [e])
  have h2 : c ∉ r := fun e => h (by simp [e])
  rw [splitL_cons_ne r h1, splitL_none h2];rfl
theorem splitL_at {c : UInt8} : ∀ {p : List UInt8} (q : List UInt8), c ∉ p → splitL c (p ++ c :: q) = p :: splitL c q
 | [], q, _ => splitL_cons_eq c q
 | x :: r, q, h => by
  have h1 : x ≠ c := fun e => h (by simp [e])
  have h2 : c ∉ r := fun e => h (by simp [e])
  rw [List.cons_append, splitL_cons_ne _ h1, splitL_at q h2];rfl
theorem splitL_len (c : UInt8) : ∀ l : List UInt8, (splitL c l).length ≤ l.length + 1
 | [] => by simp [splitL]
 | x :: r => by
  have := splitL_len c r
  by_cases h : x = c
  ·subst h; rw [splitL_cons_eq]; simp; omega
  ·rw [splitL_cons_ne r h]
   cases e : splitL c r with
   | nil => simp [consHead]
   | cons a t => simp [consHead]; rw [e] at this; simp at this; omega
theorem splitL_size (c : UInt8) : ∀ (l : List UInt8), ∀ p ∈ splitL c l, p.length ≤ l.length
 | [] => by simp [splitL]
 | x :: r => by
  have ih := splitL_size c r
  by_cases h : x = c
  ·subst h;rw [splitL_cons_eq];intro p hp
   rcases List.mem_cons.1 hp with rfl | hp
   ·simp
   ·have := ih p hp; simp; omega
  ·rw [splitL_cons_ne r h];intro p hp
   cases e : splitL c r with
   | nil => exact absurd e (splitL_ne c r)
   | cons a t =>
    rw [e] at hp ih
    rcases List.mem_cons.1 hp with rfl | hp
    ·have := ih a (by simp); simp; omega
    ·have := ih p (by simp [hp]); simp; omega
def splitB (c : UInt8) (s : ByteArray) : List ByteArray := (splitL c s.data.toList).map ba
theorem splitB_ne (c : UInt8) (s : ByteArray) : splitB c s ≠ [] := by
 unfold splitB;intro h;exact splitL_ne c _ (List.map_eq_nil_iff.1 h)
theorem wrap_in {n : Int} (h : 0 ≤ n) (h2 : n ≤ 281474976710657) : wrap64 n = n := by unfold wrap64; omega
theorem pieces_l0 (c : UInt8) (s : ByteArray) (hs : s.size ≤ 281474976710656) : ∀ (d k : Nat) (acc : List ByteArray) (f i : Nat), f ≤ i → i ≤ s.size → s.size - i = d → d < k → acc.length + s.size - i + 1 < 8796093022208 →
  spec_cronPieces.l0 k s (c.toNat : Int) acc f (s.size : Int) i = some (acc ++ (consHead ((s.data.toList.take i).drop f) (splitL c (s.data.toList.drop i))).map ba) := by
 intro d
 induction d with
 | zero =>
  intro k acc f i hf hi hd hk hl;obtain ⟨k, rfl⟩ : ∃ m, k = m + 1 := ⟨k - 1, by omega⟩
  simp only [spec_cronPieces.l0];have e : i = s.size := by omega
  rw [if_neg (by omega), if_pos (by omega), if_pos (by omega), if_pos (by omega)];have hdr : s.data.toList.drop i = [] := List.drop_eq_nil_of_le (by rw [← size_list]; omega);rw [hdr, extract_ba, Int.toNat_natCast];have ht : s.data.toList.take s.size = s.data.toList.take i := by rw [e]
  rw [ht];simp [splitL, consHead]
 | succ d ih =>
  intro k acc f i hf hi hd hk hl;obtain ⟨k, rfl⟩ : ∃ m, k = m + 1 := ⟨k - 1, by omega⟩
  have hlt : i < s.data.toList.length := by rw [← size_list]; omega
  simp only [spec_cronPieces.l0];rw [if_pos (by omega), if_pos (by omega), if_pos (by omega), bt_list s i hlt, List.drop_eq_getElem_cons hlt];have hw : wrap64 ((i : Int) + 1) = ((i + 1 : Nat) : Int) := by rw [wrap_in (by omega) (by omega)]; omega
  by_cases h : s.data.toList[i] = c
  ·rw [if_pos (by rw [h]), if_pos (by omega), if_pos (by omega), if_pos (by omega), if_pos (by omega), hw];rw [ih k _ (i + 1) (i + 1) (by omega) (by omega) (by omega) (by omega) (by simp; omega)];rw [h, splitL_cons_eq];have hp : (s.data.toList.take (i + 1)).drop (i + 1) = [] := List.drop_eq_nil_of_le (by simp; omega);rw [hp, consHead_nil (splitL_ne _ _), extract_ba, Int.toNat_natCast, Int.toNat_natCast];simp [consHead]
  ·rw [if_neg (by intro e; exact h (UInt8.toNat_inj.1 (by omega))), hw];rw [ih k _ f (i + 1) (by omega) (by omega) (by omega) (by omega) (by omega)];rw [splitL_cons_ne _ h, consHead_cons]
   congr 3
   rw [List.take_succ_eq_append_getElem hlt, List.drop_append_of_le_length (by simp; omega)]
theorem pieces_f (c : UInt8) (s : ByteArray) (hs : s.size ≤ 8796093022206) : Ev (fun k => spec_cronPieces.f k s (c.toNat : Int)) (splitB c s) := by
 refine ⟨s.size + 1, fun k hk => ?_⟩;unfold spec_cronPieces.f;have := pieces_l0 c s (by omega) s.size k [] 0 0 (by omega) (by omega) (by omega) (by omega) (by simp; omega);rw [show ((0 : Nat) : Int) = 0 from rfl] at this
 show spec_cronPieces.l0 k s (c.toNat : Int) [] 0 (s.size : Int) 0 = _
 rw [this];simp [splitB, consHead_nil (splitL_ne _ _)]
theorem index_l0 (c : UInt8) (s : ByteArray) (hs : s.size ≤ 281474976710655) : ∀ (d k i : Nat), i ≤ s.size → s.size - i = d → d < k →
  (cron_zzIndex.l0 k s (ba [c]) i = some (-1) ∧ c ∉ s.data.toList.drop i) ∨
  ∃ j : Nat, cron_zzIndex.l0 k s (ba [c]) i = some (j : Int) ∧ i ≤ j ∧ j < s.size ∧ ∃ p q, s.data.toList.drop i = p ++ c :: q ∧ c ∉ p ∧ p.length = j - i := by
 intro d
 induction d with
 | zero =>
  intro k i hi hd hk;obtain ⟨k, rfl⟩ : ∃ m, k = m + 1 := ⟨k - 1, by omega⟩
  left
  simp only [cron_zzIndex.l0, ba_size, List.length_singleton];rw [wrap_in (by omega) (by omega), if_neg (by omega)];refine ⟨rfl, ?_⟩;rw [List.drop_eq_nil_of_le (by rw [← size_list]; omega)];simp
 | succ d ih =>
  intro k i hi hd hk;obtain ⟨k, rfl⟩ : ∃ m, k = m + 1 := ⟨k - 1, by omega⟩
  have hlt : i < s.data.toList.length := by rw [← size_list]; omega
  simp only [cron_zzIndex.l0, ba_size, List.length_singleton];have hw : wrap64 ((i : Int) + ((1 : Nat) : Int)) = ((i + 1 : Nat) : Int) := by rw [wrap_in (by omega) (by omega)]; omega
  have hw' : wrap64 ((i : Int) + 1) = ((i + 1 : Nat) : Int) := by rw [wrap_in (by omega) (by omega)]; omega
  rw [hw, if_pos (by omega), if_pos (by omega), if_pos (by omega), hw', Int.toNat_natCast, Int.toNat_natCast, toList_data, toList_data, extract_list, ba_list]
  have hx : (s.data.toList.take (i + 1)).drop i = [s.data.toList[i]] := by
   rw [List.take_succ_eq_append_getElem hlt, List.drop_append_of_le_length (by simp; omega), List.drop_eq_nil_of_le (by simp; omega)];rfl
  rw [hx, List.drop_eq_getElem_cons hlt]
  by_cases h : s.data.toList[i] = c
  ·right
   rw [if_pos (by rw [h])];exact ⟨i, rfl, by omega, by omega, [], _, by rw [h]; rfl, by simp, by simp⟩
  ·rw [if_neg (by intro e; exact h (by simpa using e))]
   rcases ih k (i + 1) (by omega) (by omega) (by omega) with ⟨h1, h2⟩ | ⟨j, h1, h2, h3, p, q, h4, h5, h6⟩
   ·left
    refine ⟨h1, ?_⟩;intro hm
    rcases List.mem_cons.1 hm with e | hm
    ·exact h e.symm
    ·exact h2 hm
   ·right
    refine ⟨j, h1, by omega, h3, s.data.toList[i] :: p, q, by rw [h4]; rfl, ?_, by simp; omega⟩;intro hm
    rcases List.mem_cons.1 hm with e | hm
    ·exact h e.symm
    ·exact h5 hm
theorem split_l0 (c : UInt8) : ∀ (n : Nat) (s : ByteArray) (k : Nat) (acc : List ByteArray), s.size ≤ n → s.size ≤ 281474976710655 → n + 2 < k → acc.length + s.size + 1 < 8796093022208 →
  cron_zzSplit.l0 k s (ba [c]) acc = some (acc ++ splitB c s) := by
 intro n
 induction n with
 | zero =>
  intro s k acc hn hs hk hl;obtain ⟨k, rfl⟩ : ∃ m, k = m + 1 := ⟨k - 1, by omega⟩
  simp only [cron_zzSplit.l0]
  rcases index_l0 c s hs s.size k 0 (by omega) (by omega) (by omega) with ⟨h1, h2⟩ | ⟨j, h1, h2, h3, _⟩
  ·unfold cron_zzIndex.f;rw [show ((0 : Nat) : Int) = 0 from rfl] at h1;rw [h1];simp only [Option.bind_some];rw [if_pos (by omega), if_pos (by omega)];rw [List.drop_zero] at h2;rw [splitB, splitL_none h2];simp [ba_of]
  ·omega
 | succ n ih =>
  intro s k acc hn hs hk hl;obtain ⟨k, rfl⟩ : ∃ m, k = m + 1 := ⟨k - 1, by omega⟩
  simp only [cron_zzSplit.l0]
  rcases index_l0 c s hs s.size k 0 (by omega) (by omega) (by omega) with ⟨h1, h2⟩ | ⟨j, h1, h2, h3, p, q, h4, h5, h6⟩
  ·unfold cron_zzIndex.f;rw [show ((0 : Nat) : Int) = 0 from rfl] at h1;rw [h1];simp only [Option.bind_some];rw [if_pos (by omega), if_pos (by omega)];rw [List.drop_zero] at h2;rw [splitB, splitL_none h2];simp [ba_of]
  ·unfold cron_zzIndex.f;rw [show ((0 : Nat) : Int) = 0 from rfl] at h1;rw [h1];simp only [Option.bind_some, ba_size, List.length_singleton];have hw : wrap64 ((j : Int) + ((1 : Nat) : Int)) = ((j + 1 : Nat) : Int) := by rw [wrap_in (by omega) (by omega)]; omega
   rw [if_neg (by omega), if_pos (by omega), if_pos (by omega), if_pos (by omega), hw, if_pos (by omega), if_pos (by omega), Int.toNat_natCast, Int.toNat_natCast];rw [List.drop_zero] at h4;have hsz : (s.extract (j + 1) s.size).size = s.size - (j + 1) := by simp
   rw [ih _ k _ (by omega) (by omega) (by omega) (by simp; omega)]
   have e1 : s.extract 0 j = ba p := by
    rw [extract_ba, h4]
    congr 1
    simp;rw [List.take_append_of_le_length (by omega), List.take_of_length_le (by omega)]
   have e2 : s.extract (j + 1) s.size = ba q := by
    rw [extract_ba, size_list, List.take_length, h4]
    congr 1
    rw [show j + 1 = p.length + 1 by omega, List.drop_append];simp
   rw [e1, e2]
   have e3 : splitB c s = ba p :: splitB c (ba q) := by
    rw [splitB, h4, splitL_at q h5, splitB, ba_list];rfl
   rw [e3];simp
theorem split_f (c : UInt8) (s : ByteArray) (hs : s.size ≤ 8796093022206) : Ev (fun k => cron_zzSplit.f k s (ba [c])) (splitB c s) := by
 refine ⟨s.size + 3, fun k hk => ?_⟩;unfold cron_zzSplit.f
 show cron_zzSplit.l0 k s (ba [c]) [] = _
 rw [split_l0 c s.size s k [] (by omega) (by omega) (by omega) (by simp; omega)];simp
end Go.Proofs.YtmecbmgfacpecaaGreatDoor.Text
namespace Go.Proofs.YtmecbmgfacpecaaGreatDoor.Text
open Go Go.RowKit Go.Proofs.YtmecbmgfacpecaaGreatDoorW.PrintWords Go.Proofs.YtmecbmgfacpecaaGreatDoor.Pr
set_option linter.unusedVariables false
structure Texts (w : World) (g n cap : Nat) (l : List ByteArray) : Prop where
 len : n = l.length
 le : n ≤ cap
 lt : g < w.heap.size
 at_ : ∀ (i : Nat) x, l[i]? = some x → w.cell? ⟨g, i, none⟩ = some (.string x)
theorem Texts.below {w w' : World} {g n cap : Nat} {l : List ByteArray} (h : Texts w g n cap l) (hb : Below w.heap.size w w') : Texts w' g n cap l :=
 ⟨h.len, h.le, Nat.lt_of_lt_of_le h.lt hb.size, fun i x hx => (hb.cell (p := ⟨g, i, none⟩) h.lt).trans (h.at_ i x hx)⟩
theorem texts_of_R {e : Nat} {w : World} {base : Nat} {ok : Nat → Prop} {v : Value} {l : List ByteArray} (h : Kd.R Kd.string e w base ok v l) (hne : l ≠ []) :
  ∃ g n cap, v = .slice (some ⟨g, 0, none⟩) n cap ∧ base ≤ g ∧ Texts w g n cap l := by
 have ho := Kd.own_of_R h;obtain ⟨_, h1 | ⟨g, cap, cur, rfl, hg, hb, hn, hc, hs, ht⟩⟩ := ho
 ·exact absurd (List.length_eq_zero_iff.1 h1.2) hne
 ·refine ⟨g, _, cap, rfl, hg, rfl, hn, ?_, fun i x hx => ?_⟩
  ·exact (Array.getElem?_eq_some_iff.1 hb).1
  ·have hi : i < l.length := (List.getElem?_eq_some_iff.1 hx).1;have := (Kd.R_cell ByteArray.empty h (i : Int) (by omega) (by omega)).1;rw [Int.toNat_natCast] at this;rw [this];simp only [rdOf, Int.toNat_natCast, List.getD_eq_getElem?_getD, hx, Option.getD_some]
theorem zzSplit_any (c : UInt8) (s : ByteArray) (hs : s.size ≤ 8796093022206) (w : World) :
  Calls Tryz.prog 179 #[.string s, .string (ba [c])] w fun e w' => ∃ g n cap, e = .returned (.slice (some ⟨g, 0, none⟩) n cap) ∧ w.heap.size ≤ g ∧ Texts w' g n cap (splitB c s) ∧ Below w.heap.size w w' := by
 obtain ⟨k, hk⟩ := (split_f c s hs).rounds;refine (cron_zzSplit.calls k s (ba [c]) _ w hk).mono ?_;rintro e w' ⟨v, rfl, hR, hb⟩;obtain ⟨g, n, cap, rfl, hg, ht⟩ := texts_of_R hR (splitB_ne c s);exact ⟨g, n, cap, rfl, hg, ht, hb⟩
end Go.Proofs.YtmecbmgfacpecaaGreatDoor.Text
namespace Go.Proofs.YtmecbmgfacpecaaGreatDoor.Bits
open Go
def mkBits (p : Nat → Bool) : Nat → Nat
 | 0 => 0
 | n + 1 => mkBits p n + if p n then 2 ^ n else 0
theorem mkBits_lt (p : Nat → Bool) (n : Nat) : mkBits p n < 2 ^ n := by
 induction n with
 | zero => simp [mkBits]
 | succ n ih =>
  unfold mkBits;rw [Nat.pow_succ]
  split <;> omega
theorem mkBits_test (p : Nat → Bool) (n j : Nat) : (mkBits p n).testBit j = (decide (j < n) && p j) := by
 induction n with
 | zero => simp [mkBits]
 | succ n ih =>
  unfold mkBits;have hl := mkBits_lt p n
  by_cases hp : p n = true
  ·rw [if_pos hp]
   by_cases h : j = n
   ·subst h;rw [show mkBits p j + 2 ^ j = 2 ^ j + mkBits p j by omega, Nat.testBit_two_pow_add_eq, ih];simp [hp]
   ·by_cases h2 : j < n
    ·rw [show mkBits p n + 2 ^ n = 2 ^ n + mkBits p n by omega, Nat.testBit_two_pow_add_gt h2, ih];simp [h2, Nat.lt_succ_of_lt h2]
    ·have h3 : n + 1 ≤ j := by omega
     have h4 : ¬ j < n + 1 := by omega
     rw [Nat.testBit_lt_two_pow]
     ·simp [h4]
     ·calc _ < 2 ^ (n + 1) := by rw [Nat.pow_succ]; omega
       _ ≤ 2 ^ j := Nat.pow_le_pow_right (by decide) h3
  ·rw [if_neg hp, Nat.add_zero, ih]
   by_cases h : j = n
   ·subst h; simp [hp]
   ·have : (j < n) = (j < n + 1) := by apply propext; omega
    simp [this]
theorem mkBits_ext {p q : Nat → Bool} (n : Nat) (h : ∀ j, j < n → p j = q j) : mkBits p n = mkBits q n := by
 apply Nat.eq_of_testBit_eq
 intro j;rw [mkBits_test, mkBits_test]
 by_cases hj : j < n
 ·simp [hj, h j hj]
 ·simp [hj]
theorem eq_mkBits {x n : Nat} {p : Nat → Bool} (hx : x < 2 ^ n) (h : ∀ j, j < n → x.testBit j = p j) : x = mkBits p n := by
 apply Nat.eq_of_testBit_eq
 intro j;rw [mkBits_test]
 by_cases hj : j < n
 ·simp [hj, h j hj]
 ·have : x < 2 ^ j := Nat.lt_of_lt_of_le hx (Nat.pow_le_pow_right (by decide) (by omega));rw [Nat.testBit_lt_two_pow this];simp [hj]
theorem mkBits_or (p q : Nat → Bool) (n : Nat) : mkBits p n ||| mkBits q n = mkBits (fun j => p j || q j) n := by
 apply eq_mkBits (Nat.or_lt_two_pow (mkBits_lt _ _) (mkBits_lt _ _))
 intro j hj;simp [mkBits_test, hj]
theorem mkBits_and (p q : Nat → Bool) (n : Nat) : mkBits p n &&& mkBits q n = mkBits (fun j => p j && q j) n := by
 apply eq_mkBits (Nat.and_lt_two_pow _ (mkBits_lt _ _))
 intro j hj;simp [mkBits_test, hj]
theorem mkBits_xor (p q : Nat → Bool) (n : Nat) : mkBits p n ^^^ mkBits q n = mkBits (fun j => p j ^^ q j) n := by
 apply eq_mkBits (Nat.xor_lt_two_pow (mkBits_lt _ _) (mkBits_lt _ _))
 intro j hj;simp [mkBits_test, hj]
theorem pow_mkBits (i n : Nat) (h : i < n) : 2 ^ i = mkBits (fun j => j == i) n := by
 apply eq_mkBits (Nat.pow_lt_pow_right (by decide) h)
 intro j _;rw [Nat.testBit_two_pow]
 by_cases h : j = i
 ·subst h; simp
 ·have : ¬ i = j := fun e => h e.symm
  simp [h, this]
theorem wrap_u64 (n : Int) : IntKind.u64.wrap n = n % 18446744073709551616 := by simp [IntKind.wrap, IntKind.bits, IntKind.signed]
theorem wraps_u64 (n : Int) (h₀ : 0 ≤ n) (h₁ : n < 2 ^ 64) : IntKind.u64.wrap n = n := by rw [wrap_u64]; omega
theorem and_u64 {a b : Nat} (ha : a < 2 ^ 64) (hb : b < 2 ^ 64) : bits .and .u64 (a : Int) (b : Int) = ((a &&& b : Nat) : Int) :=
 (bits_nat .u64 64 (by decide) wraps_u64 a b ha hb).1
theorem or_u64 {a b : Nat} (ha : a < 2 ^ 64) (hb : b < 2 ^ 64) : bits .or .u64 (a : Int) (b : Int) = ((a ||| b : Nat) : Int) :=
 (bits_nat .u64 64 (by decide) wraps_u64 a b ha hb).2
theorem xor_u64 {a b : Nat} (ha : a < 2 ^ 64) (hb : b < 2 ^ 64) : bits .xor .u64 (a : Int) (b : Int) = ((a ^^^ b : Nat) : Int) := by
 have ha' : a % 2 ^ 64 = a := Nat.mod_eq_of_lt ha;have hb' : b % 2 ^ 64 = b := Nat.mod_eq_of_lt hb;have e : IntKind.u64.bits = 64 := rfl;unfold bits;rw [e]
 show IntKind.u64.wrap ((BitVec.ofInt 64 (a : Int) ^^^ BitVec.ofInt 64 (b : Int)).toNat : Int) = _
 rw [BitVec.ofInt_natCast, BitVec.ofInt_natCast, BitVec.toNat_xor, BitVec.toNat_ofNat, BitVec.toNat_ofNat, ha', hb'];exact wraps_u64 _ (Int.natCast_nonneg _) (by exact_mod_cast Nat.xor_lt_two_pow ha hb)
theorem shl_one {i : Int} (h0 : 0 ≤ i) (h : i ≤ 63) : IntKind.u64.wrap (2 ^ i.toNat) = ((2 ^ i.toNat : Nat) : Int) := by
 rw [wraps_u64]
 ·rw [Int.natCast_pow]; rfl
 ·exact Int.pow_nonneg (by decide)
 ·have : (2 : Nat) ^ i.toNat < 2 ^ 64 := Nat.pow_lt_pow_right (by decide) (by omega)
  exact_mod_cast this
theorem max_table : ∀ n, n < 65 → (18446744073709551615 * 2 ^ n) % 18446744073709551616 = mkBits (fun j => decide (n ≤ j)) 64 := by decide +kernel
theorem shl_max {i : Int} (h0 : 0 ≤ i) (h : i ≤ 64) : IntKind.u64.wrap (18446744073709551615 * 2 ^ i.toNat) = ((mkBits (fun j => decide (i.toNat ≤ j)) 64 : Nat) : Int) := by
 rw [wrap_u64, ← max_table i.toNat (by omega), Int.natCast_emod, Int.natCast_mul, Int.natCast_pow];rfl
theorem max_u64 : IntKind.u64.max = ((mkBits (fun _ => true) 64 : Nat) : Int) := by decide +kernel
def steps (lo hi st : Nat) : Nat := mkBits (fun j => decide (lo ≤ j) && decide (j ≤ hi) && ((j - lo) % st == 0)) 64
theorem steps_lt (lo hi st : Nat) : steps lo hi st < 2 ^ 64 := mkBits_lt _ _
def below (lo i st : Nat) : Nat := mkBits (fun j => decide (lo ≤ j) && decide (j < i) && ((j - lo) % st == 0)) 64
theorem below_lt (lo i st : Nat) : below lo i st < 2 ^ 64 := mkBits_lt _ _
theorem below_start (lo st : Nat) : below lo lo st = 0 := by
 unfold below;rw [mkBits_ext (q := fun _ => false)]
 ·decide
 ·intro j _
  by_cases h : lo ≤ j
  ·have : ¬ j < lo := by omega
   simp [this]
  ·simp [h]
theorem below_step {lo i st : Nat} (m : Nat) (hi : i = lo + m * st) (hs : 1 ≤ st) (h63 : i ≤ 63) : below lo i st ||| 2 ^ i = below lo (i + st) st := by
 unfold below;rw [pow_mkBits i 64 (by omega), mkBits_or]
 apply mkBits_ext
 intro j _
 by_cases h1 : j < i
 ·have h2 : j < i + st := by omega
  have h3 : (j == i) = false := by simp; omega
  simp [h1, h2, h3]
 ·by_cases h2 : j = i
  ·subst h2;have : (j - lo) % st = 0 := by rw [hi]; simp
   simp [this];omega
  ·have h3 : (j == i) = false := by simpa using h2
   rw [h3, Bool.or_false]
   by_cases h4 : j < i + st
   ·have h5 : (j - lo) % st = j - i := by
     have : j - lo = st * m + (j - i) := by rw [Nat.mul_comm]; omega
     rw [this, Nat.mul_add_mod];exact Nat.mod_eq_of_lt (by omega)
    have h6 : ((j - lo) % st == 0) = false := by rw [h5]; simp; omega
    simp [h6]
   ·simp [h1, h4]
theorem below_end {lo i hi st : Nat} (m : Nat) (hm : i = lo + m * st) (h : hi < i) (hp : i ≤ hi + st) (hlo : lo ≤ hi) : below lo i st = steps lo hi st := by
 unfold below steps
 apply mkBits_ext
 intro j _
 by_cases h1 : j ≤ hi
 ·have : j < i := by omega
  simp [h1, this]
 ·by_cases h2 : j < i
  ·have h6 : ((j - lo) % st == 0) = false := by
    simp;intro e;obtain ⟨q, hq⟩ := Nat.dvd_of_mod_eq_zero e
    -- lo + q st = j, hi < j < lo + m st, so q < m, so j ≤ i - st ≤ hi
    have hj : j = lo + st * q := by omega
    have : q < m := by
     apply Nat.lt_of_not_le
     intro hmq;have := Nat.mul_le_mul_left st hmq;rw [Nat.mul_comm m st] at hm;omega
    have h7 := Nat.mul_le_mul_left st (show q + 1 ≤ m from this);rw [Nat.mul_add, Nat.mul_one] at h7;rw [Nat.mul_comm m st] at hm;omega
   simp [h6]
  ·simp [h1, h2]
theorem steps_one (lo hi : Nat) (h : hi ≤ 63) : bits .and .u64 (bits .xor .u64 IntKind.u64.max (IntKind.u64.wrap (18446744073709551615 * 2 ^ ((hi : Int) + 1).toNat))) (IntKind.u64.wrap (18446744073709551615 * 2 ^ (lo : Int).toNat)) = (steps lo hi 1 : Int) ∨ 64 < lo := by
 by_cases hl : lo ≤ 64
 ·left
  rw [shl_max (by omega) (by omega), shl_max (by omega) (by omega), max_u64, xor_u64 (mkBits_lt _ _) (mkBits_lt _ _), mkBits_xor, and_u64 (mkBits_lt _ _) (mkBits_lt _ _), mkBits_and]
  congr 1
  apply mkBits_ext
  intro j _
  by_cases a : lo ≤ j <;> by_cases b : j ≤ hi
  ·have h1 : j < hi + 1 := by omega
   simp [a, b, h1, Nat.mod_one]
  ·have h1 : hi + 1 ≤ j := by omega
   simp [a, b]; omega
  ·simp [a]
  ·simp [a]
 ·right; omega
end Go.Proofs.YtmecbmgfacpecaaGreatDoor.Bits
