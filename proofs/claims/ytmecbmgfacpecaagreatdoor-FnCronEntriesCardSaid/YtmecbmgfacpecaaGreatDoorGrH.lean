/- Lemmas and walks on the way to the law, merged by wip/tools/pack.py: Trim, SpecValue, Words, PlainText, Parser, ParseCron. Conditions: none. -/
import Derived.Test.YtmecbmgfacpecaaGreatDoorGrG
import Derived.Stop.FmtQuoteTie
set_option linter.unusedVariables false
set_option linter.unusedSimpArgs false
namespace Go.Proofs.YtmecbmgfacpecaaGreatDoor.Cron
open Go Go.RowKit Go.Lib Go.Proofs.YtmecbmgfacpecaaGreatDoor.Text Go.Proofs.YtmecbmgfacpecaaGreatDoorW.PrintWords Go.Proofs.YtmecbmgfacpecaaGreatDoorW.PrintLast Go.Proofs.YtmecbmgfacpecaaGreatDoorW.PrintMore Go.Proofs.YtmecbmgfacpecaaGreatDoor.Pr
def trimF (s : ByteArray) : Nat → Nat → Option (Nat × Nat) → Option (Nat × Nat)
 | 0, _, st => st
 | f + 1, pos, st => if pos < s.size then
   let d := Utf8.decode s pos
   trimF s f (pos + d.2) (if spaceZ d.1 = true then st else match st with
    | none => some (pos, pos + d.2)
    | some x => some (x.1, pos + d.2))
  else st
def trimZ (s : ByteArray) : ByteArray := match trimF s s.size 0 none with
 | none => ⟨#[]⟩
 | some x => s.extract x.1 x.2
abbrev GU (w : World) : Prop := Lib.Utf8Tabs 2 3 w
theorem GU.below {w w' : World} (h : GU w) (hb : Below w.heap.size w w') : GU w' :=
 ⟨fun c hc => (hb.cell (p := ⟨_, c, none⟩) (Lib.lt_of_cell (h.1 c hc))).trans (h.1 c hc), fun i hi => ⟨(hb.cell (p := ⟨_, 2 * i, none⟩) (Lib.lt_of_cell (h.2 i hi).1)).trans (h.2 i hi).1, (hb.cell (p := ⟨_, 2 * i + 1, none⟩) (Lib.lt_of_cell (h.2 i hi).2)).trans (h.2 i hi).2⟩⟩
theorem dec_in (s : ByteArray) (pos : Nat) (hlt : pos < s.size) : pos + (Utf8.decode s pos).2 ≤ s.size := by
 have := Lib.decodeN_le_n' (s.size - pos) (s.get! pos).toNat (s.get! (pos + 1)).toNat (s.get! (pos + 2)).toNat (s.get! (pos + 3)).toNat (by omega);rw [← Lib.decode_at] at this;omega
theorem trimZ_size (s : ByteArray) : (trimZ s).size ≤ s.size := by
 unfold trimZ;split
 ·exact Nat.zero_le _
 ·rw [ByteArray.size_extract];omega
def stFrom (st : Option (Nat × Nat)) : Int := match st with
 | none => -1
 | some x => (x.1 : Nat)
def stTo (st : Option (Nat × Nat)) : Int := match st with
 | none => 0
 | some x => (x.2 : Nat)
theorem str_from' (s : ByteArray) (i : Nat) (hi : i ≤ s.size) (w : World) : (Instr.slice 9 (.string s) (some (.int .i64 (i : Nat))) none none).run Tryz.prog w = .ok (.string (s.extract i s.size)) w := by
 have h1 : (i : Int) ≤ ((s.size : Nat) : Int) := by omega
 simp [Instr.slice, Instr.sliceBounds, Instr.sliceBound, asIntOf, run_underlying Tryz.underlying9];omega
theorem str_sub (s : ByteArray) (i j : Nat) (hi : i ≤ j) (hj : j ≤ s.size) (w : World) : (Instr.slice 9 (.string s) (some (.int .i64 (i : Nat))) (some (.int .i64 (j : Nat))) none).run Tryz.prog w = .ok (.string (s.extract i j)) w := by
 have h1 : (i : Int) ≤ ((j : Nat) : Int) := by omega
 have h2 : (j : Int) ≤ ((s.size : Nat) : Int) := by omega
 simp [Instr.slice, Instr.sliceBounds, Instr.sliceBound, asIntOf, run_underlying Tryz.underlying9];rw [if_pos hj, if_pos hi]
set_option maxRecDepth 100000 in
set_option maxHeartbeats 4000000 in
theorem trim_any (s : ByteArray) (hs : s.size ≤ 4294967296) (w : World) (hg : GU w) :
  Calls Tryz.prog 100 #[.string s] w fun e w' => e = .returned (.string (trimZ s)) ∧ Below w.heap.size w w' := by
 go_enter Tryz.func100, Tryz.ntmps100;go_wp2_with fail
 go_loopg [3, 4, 5] s.size (fun gf s3 s4 s5 wx => ∃ (pos : Nat) (st : Option (Nat × Nat)), s3 = .int .i64 (stFrom st) ∧ s4 = .int .i64 (stTo st) ∧ s5 = .int .i64 (pos : Nat) ∧ Below w.heap.size w wx ∧
   Hid (trimF s gf pos st = trimF s s.size 0 none) ∧ s.size ≤ pos + gf ∧ pos ≤ s.size ∧ Hid (∀ x, st = some x → x.1 ≤ x.2 ∧ x.2 ≤ pos))
 case atStart =>
  exact ⟨0, none, rfl, rfl, rfl, Below.refl _ _, Lib.hid rfl, by omega, Nat.zero_le _, Lib.hid (fun x h => by cases h)⟩
 case round =>
  obtain ⟨pos, st, rfl, rfl, rfl, hbw, HG, hfu, hps, HST⟩ := hrel;by_cases hlt : pos < s.size
  ·obtain ⟨g', rfl⟩ : ∃ g', gk = g' + 1 := ⟨gk - 1, by omega⟩
   have hwd := Lib.width_pos s pos;have hwn := dec_in s pos hlt;have hrl := Lib.rune_le s pos;have hG := HG.out;simp only [trimF, hlt, if_true] at hG
   have hdd : Lib.decodeGo (s.extract pos s.size) = Utf8.decode s pos := by
    unfold Lib.decodeGo;rw [if_neg (by rw [ByteArray.size_extract]; omega), Go.Extern.FmtText.decode_extract]
   have HDR := Lib.hid (fun w' (h : GU w') => Tryz.utf8_DecodeRuneInString (s.extract pos s.size) w' h);rw [hdd] at HDR;generalize (Utf8.decode s pos).1 = R at *;generalize (Utf8.decode s pos).2 = K at *;have HGW := Lib.hid (hg.below hbw);have HS := Lib.hid (fun w' => space_any R w');have hfr := str_from' s pos hps;have hdlt : decide ((pos : Int) < s.size) = true := decide_eq_true (by omega);clear hdd HG;go_wp2_with fail
   refine (HDR.out _ HGW.out).mono ?_;rintro e w1 ⟨rfl, hb1⟩;have hbw1 := below_of_le hbw hb1;clear hb1 hbw HGW;go_wp2_with fail
   refine (HS.out _).mono ?_;rintro e w2 ⟨rfl, q, rfl⟩;have hbw2 := pw_below_drewN hbw1 q;clear hbw1 HS;cases hsp : spaceZ R
   ·rw [hsp] at hG;simp only [Bool.false_eq_true, if_false] at hG;have HG2 := Lib.hid hG;clear hG;cases st with
    | none =>
     dsimp only [stFrom, stTo];go_wp2_with fail
     go_roundg g'
     case measure => omega
     case rel => exact ⟨pos + K, some (pos, pos + K), rfl, by go_num, by go_num, hbw2, HG2, by omega, hwn, Lib.hid (fun x h => by cases h; exact ⟨Nat.le_add_right _ _, Nat.le_refl _⟩)⟩
    | some a =>
     have := HST.out a rfl;dsimp only [stFrom, stTo];go_wp2_with fail
     go_roundg g'
     case measure => omega
     case rel => exact ⟨pos + K, some (a.1, pos + K), rfl, by go_num, by go_num, hbw2, HG2, by omega, hwn, Lib.hid (fun x h => by cases h; exact ⟨by dsimp only; omega, Nat.le_refl _⟩)⟩
   ·rw [hsp] at hG;simp only [if_true] at hG;have HG2 := Lib.hid hG;clear hG;go_wp2_with fail
    go_roundg g'
    case measure => omega
    case rel => exact ⟨pos + K, st, rfl, rfl, by go_num, hbw2, HG2, by omega, hwn, Lib.hid (fun x h => by have := HST.out x h; exact ⟨this.1, by omega⟩)⟩
  ·have hdlt : decide ((pos : Int) < s.size) = false := decide_eq_false (by omega)
   have hG : st = trimF s s.size 0 none := by
    rw [← HG.out];cases gk with
    | zero => rfl
    | succ k => unfold trimF; rw [if_neg hlt]
   have hle := HST.out;clear HG HST;cases st with
   | none =>
    have HT : Hid (trimZ s = ⟨#[]⟩) := Lib.hid (by unfold trimZ; rw [← hG]);clear hG hle;dsimp only [stFrom, stTo];go_wp2_with fail
    go_ret;exact ⟨by rw [HT.out]; rfl, hbw⟩
   | some a =>
    have HT : Hid (trimZ s = s.extract a.1 a.2) := Lib.hid (by unfold trimZ; rw [← hG]);have h12 := hle a rfl;have hsub := str_sub s a.1 a.2 h12.1 (by omega);have hdf : decide (((a.1 : Nat) : Int) < 0) = false := decide_eq_false (by omega);clear hG hle;dsimp only [stFrom, stTo];go_wp2_with fail
    go_ret;exact ⟨by rw [HT.out]; rfl, hbw⟩
end Go.Proofs.YtmecbmgfacpecaaGreatDoor.Cron
namespace Go.Proofs.YtmecbmgfacpecaaGreatDoor.Cron
open Go Go.RowKit Go.Proofs.YtmecbmgfacpecaaGreatDoor.Text Go.Proofs.YtmecbmgfacpecaaGreatDoorW.PrintWords Go.Proofs.YtmecbmgfacpecaaGreatDoorW.PrintLast Go.Proofs.YtmecbmgfacpecaaGreatDoorW.PrintMore Go.Proofs.YtmecbmgfacpecaaGreatDoor.Pr
def Ev {α : Type} (f : Nat → Option α) (r : α) : Prop := ∃ K, ∀ k, K ≤ k → f k = some r
theorem ev_of {α : Type} {f : Nat → Option α} {r : α} {k : Nat} (hm : ∀ k, LeO (f k) (f (k + 1))) (h : f k = some r) : Ev f r := by
 refine ⟨k, fun k' hk => ?_⟩;obtain ⟨d, rfl⟩ : ∃ d, k' = k + d := ⟨k' - k, by omega⟩
 clear hk;induction d with
 | zero => exact h
 | succ n ih => exact hm (k + n) r ih
def upN (n : Nat) : Nat := if 97 ≤ n ∧ n ≤ 122 then n - 32 else n
theorem upper_f (n : Nat) (h : n < 256) : spec_cronUpper.f (n : Int) = some ((upN n : Nat) : Int) := by
 unfold spec_cronUpper.f upN;by_cases h1 : 97 ≤ n
 ·rw [if_pos (by omega)];by_cases h2 : n ≤ 122
  ·rw [if_pos (by omega), if_pos ⟨h1, h2⟩];congr 1
   omega
  ·rw [if_neg (by omega), if_neg (by omega)]
 ·rw [if_neg (by omega), if_neg (by omega)]
def sameL : List UInt8 → List UInt8 → Bool
 | [], [] => true
 | a :: x, b :: y => (upN a.toNat == upN b.toNat) && sameL x y
 | _, _ => false
theorem same_len : ∀ (a b : List UInt8), sameL a b = true → a.length = b.length
 | [], [], _ => rfl
 | a :: x, b :: y, h => by
  simp only [sameL, Bool.and_eq_true] at h;simp [same_len x y h.2]
 | [], b :: y, h => by cases h
 | a :: x, [], h => by cases h
theorem same_l0 (a s : ByteArray) (ha : a.size ≤ 4294967296) (hl : a.size = s.size) : ∀ (k i : Nat), a.size - i < k → i ≤ a.size → spec_cronSame.l0 k a s (a.size : Int) (i : Int) = some (sameL (a.data.toList.drop i) (s.data.toList.drop i))
 | 0, i, hk, hi => by omega
 | k + 1, i, hk, hi => by
  have h1 := size_list a;have h2 := size_list s;unfold spec_cronSame.l0;by_cases h : i < a.size
  ·have ha' : i < a.data.toList.length := by omega
   have hs' : i < s.data.toList.length := by omega
   rw [if_pos (by omega), if_pos (by omega), if_pos (by omega), bt_list a i ha', upper_f _ (UInt8.toNat_lt _)];simp only [Option.bind_some];rw [if_pos (by omega), bt_list s i hs', upper_f _ (UInt8.toNat_lt _)];simp only [Option.bind_some];rw [List.drop_eq_getElem_cons ha', List.drop_eq_getElem_cons hs'];simp only [sameL];by_cases e : upN (a.data.toList[i]).toNat = upN (s.data.toList[i]).toNat
   ·rw [if_pos (by omega), e]
    have hw : wrap64 ((i : Int) + 1) = ((i + 1 : Nat) : Int) := by
     unfold wrap64;omega
    rw [hw, same_l0 a s ha hl k (i + 1) (by omega) (by omega)];simp
   ·rw [if_neg (by omega)];have : (upN (a.data.toList[i]).toNat == upN (s.data.toList[i]).toNat) = false := by simpa using e
    rw [this];rfl
  ·rw [if_neg (by omega), List.drop_eq_nil_of_le (by omega), List.drop_eq_nil_of_le (by omega)];rfl
theorem same_ev (a s : ByteArray) (ha : a.size ≤ 4294967296) : Ev (fun k => spec_cronSame.f k a s) (sameL a.data.toList s.data.toList) := by
 refine ⟨a.size + 1, fun k hk => ?_⟩;have h1 := size_list a;have h2 := size_list s;simp only [spec_cronSame.f];by_cases hl : a.size = s.size
 ·rw [if_pos (by omega)];have := same_l0 a s ha hl k 0 (by omega) (by omega);simpa using this
 ·rw [if_neg (by omega)];cases h : sameL a.data.toList s.data.toList with
  | true => exact absurd (same_len _ _ h) (by omega)
  | false => rfl
theorem foreign_l0 (s : ByteArray) (hs : s.size ≤ 4294967296) : ∀ (k i : Nat), s.size - i < k → i ≤ s.size → spec_cronForeign.l0 k s (s.size : Int) (i : Int) = some ((s.data.toList.drop i).any fun c => decide (128 ≤ c.toNat))
 | 0, i, hk, hi => by omega
 | k + 1, i, hk, hi => by
  have h1 := size_list s;unfold spec_cronForeign.l0;by_cases h : i < s.size
  ·have hs' : i < s.data.toList.length := by omega
   rw [if_pos (by omega), if_pos (by omega), if_pos (by omega), bt_list s i hs', List.drop_eq_getElem_cons hs', List.any_cons];by_cases e : 128 ≤ (s.data.toList[i]).toNat
   ·rw [if_pos (by omega), decide_eq_true e];rfl
   ·rw [if_neg (by omega), decide_eq_false e, Bool.false_or]
    have hw : wrap64 ((i : Int) + 1) = ((i + 1 : Nat) : Int) := by
     unfold wrap64;omega
    rw [hw, foreign_l0 s hs k (i + 1) (by omega) (by omega)]
  ·rw [if_neg (by omega), List.drop_eq_nil_of_le (by omega)];rfl
theorem foreign_ev (s : ByteArray) (hs : s.size ≤ 4294967296) : Ev (fun k => spec_cronForeign.f k s) (s.data.toList.any fun c => decide (128 ≤ c.toNat)) := by
 refine ⟨s.size + 1, fun k hk => ?_⟩;simp only [spec_cronForeign.f];have := foreign_l0 s hs k 0 (by omega) (by omega);simpa using this
def low8 (c : UInt8) : UInt8 := if 65 ≤ c.toNat ∧ c.toNat ≤ 90 then UInt8.ofNat (c.toNat + 32) else c
theorem lowRune_ascii (c : UInt8) (h : c.toNat < 128) : lowRune c.toNat = [low8 c] := by
 unfold lowRune low8;by_cases h1 : 65 ≤ c.toNat ∧ c.toNat ≤ 90
 ·rw [if_pos h1, if_pos h1]
 ·rw [if_neg h1, if_neg h1, if_neg (by omega), if_neg (by omega), Extern.FmtText.enc1 _ h];simp
theorem lowGo_ascii (s : ByteArray) (ha : ∀ c ∈ s.data.toList, c.toNat < 128) : ∀ (f pos : Nat), s.size ≤ f + pos → lowGo s f pos = (s.data.toList.drop pos).map low8
 | 0, pos, h => by
  have := size_list s;rw [List.drop_eq_nil_of_le (by omega)];rfl
 | f + 1, pos, h => by
  have hz := size_list s;unfold lowGo;by_cases hlt : pos < s.size
  ·have hl : pos < s.data.toList.length := by omega
   have hc := ha _ (List.getElem_mem hl);rw [if_pos hlt, (dec_at _ hc s pos hlt).1 (List.getElem?_eq_getElem hl), List.drop_eq_getElem_cons hl, List.map_cons];simp only;rw [lowRune_ascii _ hc, lowGo_ascii s ha f (pos + 1) (by omega)];rfl
  ·rw [if_neg hlt, List.drop_eq_nil_of_le (by omega)];rfl
theorem low_ascii (s : ByteArray) (ha : ∀ c ∈ s.data.toList, c.toNat < 128) : lowB s = ba (s.data.toList.map low8) := by
 unfold lowB lowS;rw [lowGo_ascii s ha s.size 0 (by omega)];rfl
theorem up_iff {c d : Nat} (h : 65 ≤ c ∧ c ≤ 90) (hd : d < 256) : upN c = upN d ↔ d = c ∨ d = c + 32 := by
 unfold upN;rw [if_neg (by omega)];by_cases h2 : 97 ≤ d ∧ d ≤ 122
 ·rw [if_pos h2]; omega
 ·rw [if_neg h2]; omega
theorem same_low : ∀ (N l : List UInt8), (∀ c ∈ N, 65 ≤ c.toNat ∧ c.toNat ≤ 90) → (sameL N l = true ↔ ((∀ c ∈ l, c.toNat < 128) ∧ l.map low8 = N.map low8))
 | [], [], _ => by simp [sameL]
 | [], b :: y, _ => by simp [sameL]
 | a :: x, [], _ => by simp [sameL]
 | a :: x, b :: y, h => by
  have ha := h a (by simp);have ih := same_low x y (fun c hc => h c (by simp [hc]));have hb := UInt8.toNat_lt b;simp only [sameL, Bool.and_eq_true, beq_iff_eq, List.map_cons, List.cons.injEq, List.forall_mem_cons, ih, up_iff ha hb]
  have key : (b.toNat = a.toNat ∨ b.toNat = a.toNat + 32) ↔ (b.toNat < 128 ∧ low8 b = low8 a) := by
   have e1 : low8 a = UInt8.ofNat (a.toNat + 32) := by unfold low8; rw [if_pos ha]
   have t1 : (UInt8.ofNat (a.toNat + 32)).toNat = a.toNat + 32 := by rw [UInt8.toNat_ofNat']; omega
   constructor
   ·rintro (e | e)
    ·exact ⟨by omega, by rw [u8_eq e]⟩
    ·refine ⟨by omega, ?_⟩;have : low8 b = b := by unfold low8; rw [if_neg (by omega)]
     rw [this, e1];exact u8_eq (by rw [t1, e])
   ·rintro ⟨e1', e2⟩;rw [e1] at e2;have e3 := congrArg UInt8.toNat e2;rw [t1] at e3;unfold low8 at e3;split at e3
    ·rename_i hbb
     rw [UInt8.toNat_ofNat'] at e3;omega
    ·exact .inr e3
  rw [key];constructor
  ·rintro ⟨⟨p, q⟩, r, u⟩; exact ⟨⟨p, r⟩, q, u⟩
  ·rintro ⟨⟨p, r⟩, q, u⟩; exact ⟨⟨p, q⟩, r, u⟩
def ReadsSmall (val : List UInt8 → Option Nat) (kind : Int) : Prop :=
 ∀ s : ByteArray, s.size ≤ 4294967296 → ∃ k n v, spec_CronValue.f k kind s = some (n, v) ∧ ValSays (val s.data.toList) n v ∧ (s.size ≤ 12 → n < 1000000000000)
theorem fold_small : ∀ (l : List UInt8) (n m : Nat), digitsFold n l = some m → m < (n + 1) * 10 ^ l.length
 | [], n, m, h => by
  injection h with h
  simp;omega
 | c :: r, n, m, h => by
  unfold digitsFold at h;split at h
  ·rename_i hc
   have := fold_small r _ m h;have h2 : min (10 * n + (c.toNat - 48)) 1099511627776 + 1 ≤ (n + 1) * 10 := by omega
   have h3 := Nat.mul_le_mul_right (10 ^ r.length) h2;rw [List.length_cons, Nat.pow_succ, Nat.mul_comm (10 ^ r.length) 10, ← Nat.mul_assoc];omega
  ·cases h
theorem pair_small (r : List UInt8) (v : Int) (h : r.length ≤ 12) : (pairOf r v).1 < 1000000000000 := by
 unfold pairOf;split
 ·decide
 ·split
  ·rename_i m hm
   have h1 := fold_small _ _ _ hm;have h2 : 10 ^ r.length ≤ 10 ^ 12 := Nat.pow_le_pow_right (by decide) h;simp only;omega
  ·decide
theorem j1_small (s : ByteArray) (hs : s.size ≤ 12) (v : Int) (k : Nat) (hk : s.size + 2 < k) {n w : Int} (h : spec_CronNumber.j1 k s v = some (n, w)) : n < 1000000000000 := by
 rw [number_j1 s (by omega) v k hk] at h;injection h with h
 have := pair_small s.data.toList v (by rw [← size_list]; exact hs);rw [h] at this;exact this
theorem j0_small (s : ByteArray) (hs : s.size ≤ 12) (v : Int) (b : Bool) (k : Nat) (hk : s.size + 3 < k) {n w : Int} (h : spec_CronNumber.j0 k s v b = some (n, w)) : n < 1000000000000 := by
 obtain ⟨k, rfl⟩ : ∃ m, k = m + 1 := ⟨k - 1, by omega⟩
 simp only [spec_CronNumber.j0] at h;have hx : (s.extract 1 s.size).size ≤ s.size := by rw [ByteArray.size_extract]; omega
 split at h
 ·split at h
  ·exact j1_small _ (by omega) 2 k (by omega) h
  ·cases h
 ·exact j1_small s hs v k (by omega) h
theorem number_small (s : ByteArray) (hs : s.size ≤ 12) {k : Nat} {n v : Int} (h : spec_CronNumber.f k s = some (n, v)) : n < 1000000000000 := by
 obtain ⟨K, hK⟩ := ev_of (spec_CronNumber.mono s) h;have e := hK (K + s.size + 5) (by omega);simp only at e;unfold spec_CronNumber.f at e;repeat' split at e
 all_goals first
  | exact j0_small s hs _ _ _ (by omega) e
  | (obtain ⟨b, _, hb⟩ := Option.bind_eq_some_iff.1 e; exact j0_small s hs _ _ _ (by omega) hb)
  | cases e
def monthsU : List (ByteArray × Int) := [(⟨#[74, 65, 78]⟩, 1), (⟨#[70, 69, 66]⟩, 2), (⟨#[77, 65, 82]⟩, 3), (⟨#[65, 80, 82]⟩, 4), (⟨#[77, 65, 89]⟩, 5), (⟨#[74, 85, 78]⟩, 6), (⟨#[74, 85, 76]⟩, 7), (⟨#[65, 85, 71]⟩, 8), (⟨#[83, 69, 80]⟩, 9), (⟨#[79, 67, 84]⟩, 10), (⟨#[78, 79, 86]⟩, 11), (⟨#[68, 69, 67]⟩, 12)]
def dowU : List (ByteArray × Int) := [(⟨#[83, 85, 78]⟩, 0), (⟨#[77, 79, 78]⟩, 1), (⟨#[84, 85, 69]⟩, 2), (⟨#[87, 69, 68]⟩, 3), (⟨#[84, 72, 85]⟩, 4), (⟨#[70, 82, 73]⟩, 5), (⟨#[83, 65, 84]⟩, 6)]
def firstN (l : List UInt8) : List (ByteArray × Int) → Option Int
 | [] => none
 | (k, v) :: t => if sameL k.data.toList l = true then some v else firstN l t
def Caps (U : List (ByteArray × Int)) : Prop := ∀ p ∈ U, ∀ c ∈ p.1.data.toList, 65 ≤ c.toNat ∧ c.toNat ≤ 90
def lowP (p : ByteArray × Int) : ByteArray × Int := (ba (p.1.data.toList.map low8), p.2)
theorem first_foreign (l : List UInt8) (hl : ¬ ∀ c ∈ l, c.toNat < 128) : ∀ U, Caps U → firstN l U = none
 | [], _ => rfl
 | (k, v) :: t, h => by
  unfold firstN;rw [if_neg, first_foreign l hl t (fun p hp => h p (by simp [hp]))];intro e;exact hl ((same_low _ _ (h (k, v) (by simp))).1 e).1
theorem first_look (l : List UInt8) (hl : ∀ c ∈ l, c.toNat < 128) : ∀ U, Caps U → lookL (ba (l.map low8)) (U.map lowP) = firstN l U
 | [], _ => rfl
 | (k, v) :: t, h => by
  have ih := first_look l hl t (fun p hp => h p (by simp [hp]));have hs := same_low k.data.toList l (h (k, v) (by simp));simp only [List.map_cons, lowP, lookL, firstN];by_cases e : sameL k.data.toList l = true
  ·rw [if_pos e, if_pos (by rw [(hs.1 e).2])]
  ·rw [if_neg e, if_neg, ← ih]
   ·intro h2;exact e (hs.2 ⟨hl, ba_inj h2⟩)
theorem value_l0 (kind hi : Int) (s : ByteArray) (hhigh : spec_CronHigh.f kind = some hi) (rest : Int × Int) (hrest : Ev (fun k => spec_CronValue.j2 k s true) rest) (hh : hi ≤ 100) :
  ∀ (U : List (ByteArray × Int)) (i : Int), (∀ (j : Nat) p, U[j]? = some p → p.2 = i + j ∧ p.1.size ≤ 4294967296 ∧ Ev (fun k => spec_CronName.f k kind (i + j)) p.1) → i + U.length = hi + 1 → 0 ≤ i →
   Ev (fun k => spec_CronValue.l0 k kind s true i) (match firstN s.data.toList U with | some v => (v, 1) | none => rest)
 | [], i, _, he, h0 => by
  obtain ⟨K, hK⟩ := hrest;refine ⟨K + 1, fun k hk => ?_⟩;obtain ⟨k, rfl⟩ : ∃ m, k = m + 1 := ⟨k - 1, by omega⟩
  have h1 := hK k (by omega);simp only [List.length_nil] at he;simp only [spec_CronValue.l0, hhigh, Option.bind_some, firstN];rw [if_neg (by omega)];exact h1
 | (nm, v) :: t, i, hU, he, h0 => by
  obtain ⟨hv, hz, K1, hK1⟩ := hU 0 (nm, v) rfl;obtain ⟨K2, hK2⟩ := same_ev nm s hz;simp only [List.length_cons] at he
  obtain ⟨K3, hK3⟩ := value_l0 kind hi s hhigh rest hrest hh t (i + 1) (fun j p hp => by
   obtain ⟨a, b, c⟩ := hU (j + 1) p (by simpa using hp);refine ⟨by omega, b, ?_⟩;rw [show i + 1 + (j : Int) = i + ((j + 1 : Nat) : Int) by omega];exact c) (by omega) (by omega)
  refine ⟨K1 + K2 + K3 + 1, fun k hk => ?_⟩;obtain ⟨k, rfl⟩ : ∃ m, k = m + 1 := ⟨k - 1, by omega⟩
  have e1 := hK1 k (by omega);have e2 := hK2 k (by omega);have e3 := hK3 k (by omega);simp only [Int.natCast_zero, Int.add_zero] at e1 hv
  simp only at e2 e3
  have hw : wrap64 (i + 1) = i + 1 := by unfold wrap64; omega
  simp only [spec_CronValue.l0, hhigh, Option.bind_some];rw [if_pos (by omega), e1];simp only [Option.bind_some];rw [e2];simp only [Option.bind_some, firstN, hw];by_cases e : sameL nm.data.toList s.data.toList = true
  ·rw [if_pos e, if_pos e, hv]
  ·rw [if_neg e, if_neg e];exact e3
theorem months_caps : Caps monthsU := by
 intro p hp c hc;simp only [monthsU, List.mem_cons, List.not_mem_nil, or_false] at hp;rcases hp with rfl | rfl | rfl | rfl | rfl | rfl | rfl | rfl | rfl | rfl | rfl | rfl <;> (simp only [List.mem_cons, List.not_mem_nil, or_false] at hc; rcases hc with rfl | rfl | rfl <;> decide)
theorem months_lowP : monthsL = monthsU.map lowP := by decide
theorem months_name : ∀ (j : Nat) p, monthsU[j]? = some p → p.2 = (1 : Int) + j ∧ p.1.size ≤ 4294967296 ∧ Ev (fun k => spec_CronName.f k 4 (1 + j)) p.1
 | 0, p, h => by
  cases h
  exact ⟨by decide, by decide, ev_of (k := 2) (spec_CronName.mono _ _) (by simp [spec_CronName.f, spec_CronName.j0, spec_CronName.j1, toList_data, spec_CronLow.f, spec_CronHigh.f, wrap64]; first | done | rfl | decide)⟩
 | 1, p, h => by
  cases h
  exact ⟨by decide, by decide, ev_of (k := 2) (spec_CronName.mono _ _) (by simp [spec_CronName.f, spec_CronName.j0, spec_CronName.j1, toList_data, spec_CronLow.f, spec_CronHigh.f, wrap64]; first | done | rfl | decide)⟩
 | 2, p, h => by
  cases h
  exact ⟨by decide, by decide, ev_of (k := 2) (spec_CronName.mono _ _) (by simp [spec_CronName.f, spec_CronName.j0, spec_CronName.j1, toList_data, spec_CronLow.f, spec_CronHigh.f, wrap64]; first | done | rfl | decide)⟩
 | 3, p, h => by
  cases h
  exact ⟨by decide, by decide, ev_of (k := 2) (spec_CronName.mono _ _) (by simp [spec_CronName.f, spec_CronName.j0, spec_CronName.j1, toList_data, spec_CronLow.f, spec_CronHigh.f, wrap64]; first | done | rfl | decide)⟩
 | 4, p, h => by
  cases h
  exact ⟨by decide, by decide, ev_of (k := 2) (spec_CronName.mono _ _) (by simp [spec_CronName.f, spec_CronName.j0, spec_CronName.j1, toList_data, spec_CronLow.f, spec_CronHigh.f, wrap64]; first | done | rfl | decide)⟩
 | 5, p, h => by
  cases h
  exact ⟨by decide, by decide, ev_of (k := 2) (spec_CronName.mono _ _) (by simp [spec_CronName.f, spec_CronName.j0, spec_CronName.j1, toList_data, spec_CronLow.f, spec_CronHigh.f, wrap64]; first | done | rfl | decide)⟩
 | 6, p, h => by
  cases h
  exact ⟨by decide, by decide, ev_of (k := 2) (spec_CronName.mono _ _) (by simp [spec_CronName.f, spec_CronName.j0, spec_CronName.j1, toList_data, spec_CronLow.f, spec_CronHigh.f, wrap64]; first | done | rfl | decide)⟩
 | 7, p, h => by
  cases h
  exact ⟨by decide, by decide, ev_of (k := 2) (spec_CronName.mono _ _) (by simp [spec_CronName.f, spec_CronName.j0, spec_CronName.j1, toList_data, spec_CronLow.f, spec_CronHigh.f, wrap64]; first | done | rfl | decide)⟩
 | 8, p, h => by
  cases h
  exact ⟨by decide, by decide, ev_of (k := 2) (spec_CronName.mono _ _) (by simp [spec_CronName.f, spec_CronName.j0, spec_CronName.j1, toList_data, spec_CronLow.f, spec_CronHigh.f, wrap64]; first | done | rfl | decide)⟩
 | 9, p, h => by
  cases h
  exact ⟨by decide, by decide, ev_of (k := 2) (spec_CronName.mono _ _) (by simp [spec_CronName.f, spec_CronName.j0, spec_CronName.j1, toList_data, spec_CronLow.f, spec_CronHigh.f, wrap64]; first | done | rfl | decide)⟩
 | 10, p, h => by
  cases h
  exact ⟨by decide, by decide, ev_of (k := 2) (spec_CronName.mono _ _) (by simp [spec_CronName.f, spec_CronName.j0, spec_CronName.j1, toList_data, spec_CronLow.f, spec_CronHigh.f, wrap64]; first | done | rfl | decide)⟩
 | 11, p, h => by
  cases h
  exact ⟨by decide, by decide, ev_of (k := 2) (spec_CronName.mono _ _) (by simp [spec_CronName.f, spec_CronName.j0, spec_CronName.j1, toList_data, spec_CronLow.f, spec_CronHigh.f, wrap64]; first | done | rfl | decide)⟩
 | j + 12, p, h => by cases h
theorem value_months : ReadsSmall (valN monthsL) 4 := by
 intro s hs;have hlow : spec_CronLow.f 4 = some 1 := rfl;have hhigh : spec_CronHigh.f 4 = some 12 := rfl;obtain ⟨kn, n, v, hk, hv⟩ := number_is s hs;obtain ⟨K1, hN⟩ := ev_of (spec_CronNumber.mono s) hk;obtain ⟨K2, hF⟩ := foreign_ev s hs;by_cases ha : ∀ c ∈ s.data.toList, c.toNat < 128
 ·have hfo : (s.data.toList.any fun c => decide (128 ≤ c.toNat)) = false := by
   rw [List.any_eq_false];intro c hc;have := ha c hc;simp; omega
  rw [hfo] at hF
  have hrest : Ev (fun k => spec_CronValue.j2 k s true) (n, v) := ⟨K1 + K2 + 1, fun k hk => by
   obtain ⟨k, rfl⟩ : ∃ m, k = m + 1 := ⟨k - 1, by omega⟩
   have e1 := hN k (by omega);have e2 := hF k (by omega);simp only at e1 e2
   simp only [spec_CronValue.j2, if_true, e2, Option.bind_some, e1, Bool.false_eq_true, if_false]⟩
  obtain ⟨K, hK⟩ := value_l0 4 12 s hhigh (n, v) hrest (by omega) monthsU 1 months_name (by decide) (by omega);have e := hK K (Nat.le_refl _);have hl : lookL (lowB s) monthsL = firstN s.data.toList monthsU := by rw [low_ascii s ha, months_lowP]; exact first_look _ ha _ months_caps
  have hval : ∀ r, spec_CronValue.l0 K 4 s true 1 = some r → spec_CronValue.f (K + 1) 4 s = some r := by
   intro r hr;unfold spec_CronValue.f;simp [spec_CronValue.j0, hlow, hr]
  unfold valN;rw [ba_of, hl];cases hf : firstN s.data.toList monthsU with
  | some x =>
   rw [hf] at e;have hb := months_small _ (look_mem _ _ _ (hl.trans hf));exact ⟨K + 1, x, 1, hval _ e, ⟨hb.1, by omega, by omega, fun _ => .inl ⟨x.toNat, rfl, by omega⟩, fun h => by omega⟩, fun _ => by have := hb.2; simp only at this; omega⟩
  | none =>
   rw [hf] at e;exact ⟨K + 1, n, v, hval _ e, hv.says, fun h => number_small s h hk⟩
 ·have hfo : (s.data.toList.any fun c => decide (128 ≤ c.toNat)) = true := by
   rw [List.any_eq_true];apply Classical.byContradiction
   intro h;exact ha fun c hc => Classical.byContradiction fun h2 => h ⟨c, hc, by simp; omega⟩
  rw [hfo] at hF
  have hrest : Ev (fun k => spec_CronValue.j2 k s true) (0, 2) := ⟨K2 + 1, fun k hk => by
   obtain ⟨k, rfl⟩ : ∃ m, k = m + 1 := ⟨k - 1, by omega⟩
   have e2 := hF k (by omega);simp only at e2;simp only [spec_CronValue.j2, if_true, e2, Option.bind_some]⟩
  obtain ⟨K, hK⟩ := value_l0 4 12 s hhigh (0, 2) hrest (by omega) monthsU 1 months_name (by decide) (by omega);have e := hK K (Nat.le_refl _);rw [first_foreign _ ha _ months_caps] at e;refine ⟨K + 1, 0, 2, ?_, ⟨by omega, by omega, by omega, fun h => by omega, fun h => by omega⟩, fun _ => by omega⟩;unfold spec_CronValue.f;simp only at e;simp [spec_CronValue.j0, hlow, e]
theorem dow_caps : Caps dowU := by
 intro p hp c hc;simp only [dowU, List.mem_cons, List.not_mem_nil, or_false] at hp;rcases hp with rfl | rfl | rfl | rfl | rfl | rfl | rfl <;> (simp only [List.mem_cons, List.not_mem_nil, or_false] at hc; rcases hc with rfl | rfl | rfl <;> decide)
theorem dow_lowP : dowL = dowU.map lowP := by decide
theorem dow_name : ∀ (j : Nat) p, dowU[j]? = some p → p.2 = (0 : Int) + j ∧ p.1.size ≤ 4294967296 ∧ Ev (fun k => spec_CronName.f k 5 (0 + j)) p.1
 | 0, p, h => by
  cases h
  exact ⟨by decide, by decide, ev_of (k := 2) (spec_CronName.mono _ _) (by simp [spec_CronName.f, spec_CronName.j0, spec_CronName.j1, toList_data, spec_CronLow.f, spec_CronHigh.f, wrap64]; first | done | rfl | decide)⟩
 | 1, p, h => by
  cases h
  exact ⟨by decide, by decide, ev_of (k := 2) (spec_CronName.mono _ _) (by simp [spec_CronName.f, spec_CronName.j0, spec_CronName.j1, toList_data, spec_CronLow.f, spec_CronHigh.f, wrap64]; first | done | rfl | decide)⟩
 | 2, p, h => by
  cases h
  exact ⟨by decide, by decide, ev_of (k := 2) (spec_CronName.mono _ _) (by simp [spec_CronName.f, spec_CronName.j0, spec_CronName.j1, toList_data, spec_CronLow.f, spec_CronHigh.f, wrap64]; first | done | rfl | decide)⟩
 | 3, p, h => by
  cases h
  exact ⟨by decide, by decide, ev_of (k := 2) (spec_CronName.mono _ _) (by simp [spec_CronName.f, spec_CronName.j0, spec_CronName.j1, toList_data, spec_CronLow.f, spec_CronHigh.f, wrap64]; first | done | rfl | decide)⟩
 | 4, p, h => by
  cases h
  exact ⟨by decide, by decide, ev_of (k := 2) (spec_CronName.mono _ _) (by simp [spec_CronName.f, spec_CronName.j0, spec_CronName.j1, toList_data, spec_CronLow.f, spec_CronHigh.f, wrap64]; first | done | rfl | decide)⟩
 | 5, p, h => by
  cases h
  exact ⟨by decide, by decide, ev_of (k := 2) (spec_CronName.mono _ _) (by simp [spec_CronName.f, spec_CronName.j0, spec_CronName.j1, toList_data, spec_CronLow.f, spec_CronHigh.f, wrap64]; first | done | rfl | decide)⟩
 | 6, p, h => by
  cases h
  exact ⟨by decide, by decide, ev_of (k := 2) (spec_CronName.mono _ _) (by simp [spec_CronName.f, spec_CronName.j0, spec_CronName.j1, toList_data, spec_CronLow.f, spec_CronHigh.f, wrap64]; first | done | rfl | decide)⟩
 | j + 7, p, h => by cases h
theorem value_dow : ReadsSmall (valN dowL) 5 := by
 intro s hs;have hlow : spec_CronLow.f 5 = some 0 := rfl;have hhigh : spec_CronHigh.f 5 = some 6 := rfl;obtain ⟨kn, n, v, hk, hv⟩ := number_is s hs;obtain ⟨K1, hN⟩ := ev_of (spec_CronNumber.mono s) hk;obtain ⟨K2, hF⟩ := foreign_ev s hs;by_cases ha : ∀ c ∈ s.data.toList, c.toNat < 128
 ·have hfo : (s.data.toList.any fun c => decide (128 ≤ c.toNat)) = false := by
   rw [List.any_eq_false];intro c hc;have := ha c hc;simp; omega
  rw [hfo] at hF
  have hrest : Ev (fun k => spec_CronValue.j2 k s true) (n, v) := ⟨K1 + K2 + 1, fun k hk => by
   obtain ⟨k, rfl⟩ : ∃ m, k = m + 1 := ⟨k - 1, by omega⟩
   have e1 := hN k (by omega);have e2 := hF k (by omega);simp only at e1 e2
   simp only [spec_CronValue.j2, if_true, e2, Option.bind_some, e1, Bool.false_eq_true, if_false]⟩
  obtain ⟨K, hK⟩ := value_l0 5 6 s hhigh (n, v) hrest (by omega) dowU 0 dow_name (by decide) (by omega);have e := hK K (Nat.le_refl _);have hl : lookL (lowB s) dowL = firstN s.data.toList dowU := by rw [low_ascii s ha, dow_lowP]; exact first_look _ ha _ dow_caps
  have hval : ∀ r, spec_CronValue.l0 K 5 s true 0 = some r → spec_CronValue.f (K + 1) 5 s = some r := by
   intro r hr;unfold spec_CronValue.f;simp [spec_CronValue.j0, hlow, hr]
  unfold valN;rw [ba_of, hl];cases hf : firstN s.data.toList dowU with
  | some x =>
   rw [hf] at e;have hb := dow_small _ (look_mem _ _ _ (hl.trans hf));exact ⟨K + 1, x, 1, hval _ e, ⟨hb.1, by omega, by omega, fun _ => .inl ⟨x.toNat, rfl, by omega⟩, fun h => by omega⟩, fun _ => by have := hb.2; simp only at this; omega⟩
  | none =>
   rw [hf] at e;exact ⟨K + 1, n, v, hval _ e, hv.says, fun h => number_small s h hk⟩
 ·have hfo : (s.data.toList.any fun c => decide (128 ≤ c.toNat)) = true := by
   rw [List.any_eq_true];apply Classical.byContradiction
   intro h;exact ha fun c hc => Classical.byContradiction fun h2 => h ⟨c, hc, by simp; omega⟩
  rw [hfo] at hF
  have hrest : Ev (fun k => spec_CronValue.j2 k s true) (0, 2) := ⟨K2 + 1, fun k hk => by
   obtain ⟨k, rfl⟩ : ∃ m, k = m + 1 := ⟨k - 1, by omega⟩
   have e2 := hF k (by omega);simp only at e2;simp only [spec_CronValue.j2, if_true, e2, Option.bind_some]⟩
  obtain ⟨K, hK⟩ := value_l0 5 6 s hhigh (0, 2) hrest (by omega) dowU 0 dow_name (by decide) (by omega);have e := hK K (Nat.le_refl _);rw [first_foreign _ ha _ dow_caps] at e;refine ⟨K + 1, 0, 2, ?_, ⟨by omega, by omega, by omega, fun h => by omega, fun h => by omega⟩, fun _ => by omega⟩;unfold spec_CronValue.f;simp only at e;simp [spec_CronValue.j0, hlow, e]
theorem value_plain_small {kind : Int} (h4 : kind ≠ 4) (h5 : kind ≠ 5) : ReadsSmall mp kind := by
 intro s hs;obtain ⟨k, n, v, hk, hv⟩ := number_is s hs;refine ⟨k + 2, n, v, ?_, hv.says, fun h => number_small s h hk⟩;unfold spec_CronValue.f;rw [if_neg h4];simp only [spec_CronValue.j0, spec_CronValue.j2];have : (kind == 5) = false := by simpa using h5
 rw [this];simp only [Bool.false_eq_true, if_false];rw [hk];rfl
theorem value_small (k : Nat) (hk : k < 6) : ReadsSmall (valK k) k := by
 unfold valK;by_cases h4 : k = 4
 ·subst h4;exact value_months
 ·rw [if_neg h4];by_cases h5 : k = 5
  ·subst h5;exact value_dow
  ·rw [if_neg h5];exact value_plain_small (by omega) (by omega)
theorem value_reads (k : Nat) (hk : k < 6) : ReadsLike (valK k) k := fun s hs => by
 obtain ⟨K, n, v, h, hv, _⟩ := value_small k hk s hs;exact ⟨K, n, v, h, hv⟩
def Ascii (s : ByteArray) : Prop := ∀ c ∈ s.data.toList, c.toNat < 128
theorem blank_f (n : Nat) (h : n < 128) : spec_cronBlank.f (n : Int) = some (spaceZ n) := by
 unfold spec_cronBlank.f;by_cases h32 : n = 32
 ·subst h32; rfl
 ·rw [if_neg (by omega)];by_cases h9 : 9 ≤ n
  ·rw [if_pos (by omega)];congr 1
   unfold spaceZ;rw [Bool.eq_iff_iff];simp only [decide_eq_true_eq];omega
  ·rw [if_neg (by omega)];congr 1
   unfold spaceZ;symm
   apply decide_eq_false
   omega
def frm : Option Nat → Int
 | none => -1
 | some a => (a : Int)
theorem frm_none : frm none = -1 := rfl
theorem frm_some (a : Nat) : frm (some a) = (a : Int) := rfl
theorem words_l0 (s : ByteArray) (hs : s.size ≤ 4294967296) (ha : Ascii s) : ∀ (d i : Nat) (st : Option Nat) (acc : List (Nat × Nat)) (k : Nat), s.size - i = d → i ≤ s.size → 2 * d < k → (∀ a, st = some a → a < i) → acc.length ≤ i →
  spec_CronWords.l0 k s (acc.map (spanBa s)) (frm st) (s.size : Int) (i : Int) = some ((Lib.closeSpans s (Lib.spansFromP spaceZ s d i st acc)).map (spanBa s))
 | 0, i, st, acc, k, hd, hi, hk, hst, hac => by
  obtain ⟨k, rfl⟩ : ∃ m, k = m + 1 := ⟨k - 1, by omega⟩
  unfold spec_CronWords.l0 Lib.spansFromP Lib.closeSpans;rw [if_neg (by omega)];cases st with
  | none =>
   rw [frm_none, if_neg (by omega)]
  | some a =>
   have := hst a rfl;rw [frm_some, if_pos (by omega), if_pos (by omega), if_pos (by omega), if_pos (by rw [List.length_map]; omega), Int.toNat_natCast];simp [spanBa]
 | d + 1, i, st, acc, k, hd, hi, hk, hst, hac => by
  obtain ⟨k, rfl⟩ : ∃ m, k = m + 2 := ⟨k - 2, by omega⟩
  have hlt : i < s.size := by omega
  have hl : i < s.data.toList.length := by rw [← size_list]; exact hlt
  have hw : wrap64 ((i : Int) + 1) = ((i + 1 : Nat) : Int) := by
   unfold wrap64;omega
  have hbt := bt_list s i hl;have hget := List.getElem?_eq_getElem hl;have hc := ha _ (List.getElem_mem hl);generalize s.data.toList[i] = c at *;have hb := blank_f c.toNat hc;rw [← hbt] at hb;have hdec := (dec_at c hc s i hlt).1 hget;unfold spec_CronWords.l0 Lib.spansFromP;rw [if_pos (by omega), if_pos (by omega), if_pos (by omega), hb, if_pos hlt, hdec];simp only [Option.bind_some];cases hsp : spaceZ c.toNat with
  | true =>
   rw [hsp] at hb;rw [if_pos rfl, if_pos rfl];unfold spec_CronWords.j1;cases st with
   | none =>
    have hf : decide (frm none ≥ 0) = false := by decide
    rw [hf, if_neg (by decide), if_pos (by omega), if_pos (by omega), hb];simp only [Option.bind_some, if_true];rw [hw];exact words_l0 s hs ha d (i + 1) none acc k (by omega) (by omega) (by omega) (fun a h => by cases h) (by omega)
   | some a =>
    have hai := hst a rfl;have hf : decide (frm (some a) ≥ 0) = true := decide_eq_true (by rw [frm_some]; omega);rw [hf, if_pos rfl];rw [frm_some, if_pos (by omega), if_pos (by omega), if_pos (by omega), if_pos (by rw [List.length_map]; omega), hw, Int.toNat_natCast, Int.toNat_natCast];have := words_l0 s hs ha d (i + 1) none (acc ++ [(a, i)]) k (by omega) (by omega) (by omega) (fun a h => by cases h) (by simp; omega);simp only [List.map_append, List.map_cons, List.map_nil, spanBa, frm_none] at this ⊢
    exact this
  | false =>
   rw [hsp] at hb;rw [if_neg (by decide), if_neg (by decide)];unfold spec_CronWords.j1;rw [if_neg (by decide), if_pos (by omega), if_pos (by omega), hb];simp only [Option.bind_some];rw [if_neg (by decide)];cases st with
   | none =>
    rw [frm_none, if_pos (by omega), hw];exact words_l0 s hs ha d (i + 1) (some i) acc k (by omega) (by omega) (by omega) (fun a h => by injection h with h; omega) (by omega)
   | some a =>
    have hai := hst a rfl;rw [frm_some, if_neg (by omega), hw];exact words_l0 s hs ha d (i + 1) (some a) acc k (by omega) (by omega) (by omega) (fun a' h => by injection h with h; omega) (by omega)
theorem words_f (s : ByteArray) (hs : s.size ≤ 4294967296) (ha : Ascii s) : ∃ k, spec_CronWords.f k s = some (fieldsZ s) := by
 refine ⟨2 * s.size + 1, ?_⟩;unfold spec_CronWords.f;have := words_l0 s hs ha s.size 0 none [] (2 * s.size + 1) (by omega) (by omega) (by omega) (fun a h => by cases h) (by simp);exact this
theorem begins_eq (s t : ByteArray) : (if (s.size : Int) ≥ (t.size : Int) then (if 0 ≤ (t.size : Int) then (if (t.size : Int) ≤ (s.size : Int) then (some ((s.extract 0 ((t.size : Int) : Int).toNat).toList == t.toList)) else (none)) else (none)) else (some false)) = some (Lib.hasPrefix s.data.toList t.data.toList) := by
 have key : Lib.hasPrefix s.data.toList t.data.toList = decide (t.data.toList = s.data.toList.take t.data.toList.length) := by
  rw [Bool.eq_iff_iff, decide_eq_true_iff];unfold Lib.hasPrefix;rw [List.isPrefixOf_iff_prefix, List.prefix_iff_eq_take]
 by_cases h : (s.size : Int) ≥ (t.size : Int)
 ·rw [if_pos h, if_pos (by omega), if_pos (by omega), Int.toNat_natCast, toList_data, toList_data, extract_list, List.drop_zero, key];congr 1
  rw [Bool.eq_iff_iff, decide_eq_true_iff, beq_iff_eq, size_list];exact eq_comm
 ·rw [if_neg h, key];congr 1
  symm
  apply decide_eq_false
  intro he;have := congrArg List.length he;rw [List.length_take, ← size_list, ← size_list] at this;omega
theorem begins_f (s t : ByteArray) : spec_cronBegins.f s t = some (Lib.hasPrefix s.data.toList t.data.toList) := begins_eq s t
def zoneZ (s : ByteArray) : Nat := if Lib.hasPrefix s.data.toList [84, 90, 61] = true then 3 else if Lib.hasPrefix s.data.toList [67, 82, 79, 78, 95, 84, 90, 61] = true then 8 else 0
set_option maxRecDepth 100000 in
theorem zoneHead_any (s : ByteArray) (w : World) :
  Calls Tryz.prog 42 #[.string s] w fun e w' => e = .returned (.int .i64 (zoneZ s : Nat)) ∧ Below w.heap.size w w' := by
 have HT := Lib.hid (fun w' => spec_cronBegins.calls s ⟨#[84, 90, 61]⟩ _ w' (begins_f s ⟨#[84, 90, 61]⟩));have HC := Lib.hid (fun w' => spec_cronBegins.calls s ⟨#[67, 82, 79, 78, 95, 84, 90, 61]⟩ _ w' (begins_f s ⟨#[67, 82, 79, 78, 95, 84, 90, 61]⟩));have hi0 : ∀ w', (Instr.index 162 (.agg #[.string ⟨#[84, 90, 61]⟩, .string ⟨#[67, 82, 79, 78, 95, 84, 90, 61]⟩]) (.int .i64 0)).run Tryz.prog w' = .ok (.string ⟨#[84, 90, 61]⟩) w' := fun w' => by kernel_rfl
 have hi1 : ∀ w', (Instr.index 162 (.agg #[.string ⟨#[84, 90, 61]⟩, .string ⟨#[67, 82, 79, 78, 95, 84, 90, 61]⟩]) (.int .i64 1)).run Tryz.prog w' = .ok (.string ⟨#[67, 82, 79, 78, 95, 84, 90, 61]⟩) w' := fun w' => by kernel_rfl
 unfold zoneZ;dsimp only at HT HC
 generalize Lib.hasPrefix s.data.toList [84, 90, 61] = b1 at *;generalize Lib.hasPrefix s.data.toList [67, 82, 79, 78, 95, 84, 90, 61] = b2 at *;go_enter Tryz.func42, Tryz.ntmps42;go_wp2_with fail
 go_loopw [6] (fun v6 wr => ∃ (k : Nat), v6 = .int .i64 k ∧ k ≤ 2 ∧ Hid (k ≥ 1 → b1 = false) ∧ Hid (k ≥ 2 → b2 = false) ∧ Below w.heap.size w wr) (fun v6 _ => 2 - (intOf v6).toNat)
 case atStart => exact ⟨0, rfl, by omega, Lib.hid (fun h => by omega), Lib.hid (fun h => by omega), Below.refl _ _⟩
 case round =>
  obtain ⟨k, rfl, hk, H1, H2, hbr⟩ := hrel;by_cases h0 : k = 0
  ·subst h0;go_wp2_with fail
   refine (HT.out _).mono ?_;rintro e w1 ⟨rfl, hd1⟩;have hb1 := below_of_le hbr hd1.below;clear hd1;cases b1 with
   | true =>
    go_wp2_with fail
    go_ret;exact ⟨rfl, hb1⟩
   | false =>
    go_wp2_with fail
    go_roundw
    case rel => exact ⟨1, by go_num, by omega, Lib.hid (fun _ => by first | trivial | rfl), Lib.hid (fun h => by omega), hb1⟩
    case measure => simp [intOf]
  ·by_cases h1 : k = 1
   ·subst h1;have := H1.out (by omega);subst this;go_wp2_with fail
    refine (HC.out _).mono ?_;rintro e w1 ⟨rfl, hd1⟩;have hb1 := below_of_le hbr hd1.below;clear hd1;cases b2 with
    | true =>
     go_wp2_with fail
     go_ret;exact ⟨rfl, hb1⟩
    | false =>
     go_wp2_with fail
     go_roundw
     case rel => exact ⟨2, by go_num, by omega, Lib.hid (fun _ => by first | trivial | rfl), Lib.hid (fun _ => by first | trivial | rfl), hb1⟩
     case measure => simp [intOf]
   ·obtain rfl : k = 2 := by omega
    have h1 := H1.out (by omega);have h2 := H2.out (by omega);subst h1;subst h2;go_wp2_with fail
    go_ret;exact ⟨rfl, hbr⟩
theorem zoneZ_zero {s : ByteArray} (h : zoneZ s = 0) : Lib.hasPrefix s.data.toList [84, 90, 61] = false ∧ Lib.hasPrefix s.data.toList [67, 82, 79, 78, 95, 84, 90, 61] = false := by
 unfold zoneZ at h;cases h1 : Lib.hasPrefix s.data.toList [84, 90, 61] with
 | true => rw [h1, if_pos rfl] at h; omega
 | false =>
  rw [h1] at h;cases h2 : Lib.hasPrefix s.data.toList [67, 82, 79, 78, 95, 84, 90, 61] with
  | true => rw [h2] at h; simp at h
  | false => exact ⟨rfl, rfl⟩
end Go.Proofs.YtmecbmgfacpecaaGreatDoor.Cron
namespace Go.Proofs.YtmecbmgfacpecaaGreatDoor.Cron
open Go Go.RowKit Go.Proofs.YtmecbmgfacpecaaGreatDoor.Text Go.Proofs.YtmecbmgfacpecaaGreatDoor.Bits
theorem newParser_ok (o : Nat) (ho : o < 512) (h : ¬ (0 < o &&& 128 ∧ 0 < o &&& 2)) (w : World) :
  Calls Tryz.prog 95 #[.int .i64 o] w fun e w' => e = .returned (.agg #[.int .i64 o]) ∧ Below w.heap.size w w' := by
 have hand1 : bits .and .i64 (o : Int) 2 = ((o &&& 2 : Nat) : Int) := and_i64 (b := 2) (by omega) (by decide);have hand2 : bits .and .i64 (o : Int) 128 = ((o &&& 128 : Nat) : Int) := and_i64 (b := 128) (by omega) (by decide);generalize o &&& 2 = a at *;generalize o &&& 128 = b at *;by_cases h1 : 0 < b
 ·have h2 : ¬ 0 < a := fun h2 => h ⟨h1, h2⟩
  have d1 : decide (0 < (b : Int)) = true := decide_eq_true (by omega);have d2 : decide (0 < (a : Int)) = false := decide_eq_false (by omega);go_enter Tryz.func95, Tryz.ntmps95;go_wp2
  exact bodyPost_ret (v := .agg #[.int .i64 o]) (by simp [results, Tryz.results95, go_sem]) rfl ⟨rfl, (Below.refl _ _).alloc (Nat.le_refl _) _⟩
 ·have d1 : decide (0 < (b : Int)) = false := decide_eq_false (by omega);by_cases h2 : 0 < a
  ·have d2 : decide (0 < (a : Int)) = true := decide_eq_true (by omega);go_enter Tryz.func95, Tryz.ntmps95;go_wp2
   exact bodyPost_ret (v := .agg #[.int .i64 o]) (by simp [results, Tryz.results95, go_sem]) rfl ⟨rfl, (Below.refl _ _).alloc (Nat.le_refl _) _⟩
  ·have d2 : decide (0 < (a : Int)) = false := decide_eq_false (by omega);go_enter Tryz.func95, Tryz.ntmps95;go_wp2
   exact bodyPost_ret (v := .agg #[.int .i64 o]) (by simp [results, Tryz.results95, go_sem]) rfl ⟨rfl, (Below.refl _ _).alloc (Nat.le_refl _) _⟩
theorem newParser_bad (o : Nat) (ho : o < 512) (h : 0 < o &&& 128 ∧ 0 < o &&& 2) (w : World) :
  Calls Tryz.prog 95 #[.int .i64 o] w fun e w' => (∃ t x, e = .panicked [{ v := .iface t x, recovered := false }]) ∧ Below w.heap.size w w' := by
 have hand1 : bits .and .i64 (o : Int) 2 = ((o &&& 2 : Nat) : Int) := and_i64 (b := 2) (by omega) (by decide);have hand2 : bits .and .i64 (o : Int) 128 = ((o &&& 128 : Nat) : Int) := and_i64 (b := 128) (by omega) (by decide);generalize o &&& 2 = a at *;generalize o &&& 128 = b at *;have d1 : decide (0 < (b : Int)) = true := decide_eq_true (by omega);have d2 : decide (0 < (a : Int)) = true := decide_eq_true (by omega);go_enter Tryz.func95, Tryz.ntmps95;go_wp2
 exact ⟨rfl, ⟨_, _, rfl⟩, (Below.refl _ _).alloc (Nat.le_refl _) _⟩
theorem catch_panicking (p : Addr) (x : Bool) (u : TypeId) (pv : Value) (older : List PanicEntry) (w : World) (hc : w.cell? p = some (.bool x)) (hz : w.frozen? p = false) :
  CallsD Tryz.prog 94 #[.pointer (some p)] (.panicking ({ v := .iface u pv, recovered := false } :: older)) w fun e u' w' =>
   e = .returned (.tuple #[]) ∧ u' = .panicking ({ v := .iface u pv, recovered := true } :: older) ∧ w' = w.setCell p (.bool true) := by
 refine callsD_of_wpS Tryz.func94 rfl fun c₀ cs hu => ?_
 apply wpS_seq
 apply wpS_region
 simp [wpOpsS, go_sem, recoverD, hu, Tryz.ntmps94, Exit.thenS];refine wpS_cond (t := true) (by simp [Act.eval, Array.replicate]) ?_;simp only [if_true];apply wpS_region
 simp [wpOpsS, go_sem, hc, hz, bodyPostS, results, Tryz.results94]
theorem catch_idle (p : Addr) (w : World) :
  CallsD Tryz.prog 94 #[.pointer (some p)] .returning w fun e u' w' => e = .returned (.tuple #[]) ∧ u' = .returning ∧ w' = w := by
 refine callsD_of_wpS Tryz.func94 rfl fun c₀ cs hu => ?_
 apply wpS_seq
 apply wpS_region
 simp [wpOpsS, go_sem, recoverD, hu, Tryz.ntmps94, Exit.thenS];refine wpS_cond (t := false) (by simp [Act.eval, Array.replicate]) ?_;simp only [Bool.false_eq_true, if_false];refine wpS_of_wp (wp_skip ?_);cases c₀
 simp_all [bodyPostS, results, Tryz.results94]
theorem parser_ok (o : Nat) (ho : o < 512) (h : ¬ (0 < o &&& 128 ∧ 0 < o &&& 2)) (w : World) :
  Calls Tryz.prog 45 #[.int .i64 o] w fun e w' => e = .returned (.tuple #[.agg #[.int .i64 o], .bool false]) ∧ Below w.heap.size w w' := by
 have hmf : ∀ (fn : Fn) (first cap : Array Value) (w : World), (Instr.makeFunc fn first cap).run Tryz.prog w = .ok (.func fn first cap) w := fun _ _ _ _ => rfl
 go_enter_defers Tryz.func45, Tryz.ntmps45;go_wp2_with fail
 refine (newParser_ok o ho h _).mono ?_;rintro e w1 ⟨rfl, hb⟩;have hB : Below w.heap.size w w1 := (((Below.refl _ _).alloc (Nat.le_refl _) _).alloc (by simp) _).trans (hb.mono (by simp; omega));have c1 : w1.cell? ⟨w.heap.size, 0, none⟩ = some (.int .i64 0) := (hb.cell (p := ⟨w.heap.size, 0, none⟩) (by simp; omega)).trans (by simp [go_sem]);have c2 : w1.cell? ⟨w.heap.size + 1, 0, none⟩ = some (.bool false) := (hb.cell (p := ⟨w.heap.size + 1, 0, none⟩) (by simp)).trans (by simp [go_sem]);have f1 : w1.frozen? ⟨w.heap.size, 0, none⟩ = false := (hb.frozen (p := ⟨w.heap.size, 0, none⟩) (by simp; omega)).trans (by simp [go_sem]);have f2 : w1.frozen? ⟨w.heap.size + 1, 0, none⟩ = false := (hb.frozen (p := ⟨w.heap.size + 1, 0, none⟩) (by simp)).trans (by simp [go_sem]);have hz1 : w.heap.size + 1 < w1.heap.size := by have := hb.size; simp at this; omega
 clear hb;go_wp2_with fail
 refine leaves_cons (f := 94) (args := #[.pointer (some ⟨w.heap.size + 1, 0, none⟩)]) (by simp) (by simp [go_sem]) ?_;refine (catch_idle ⟨w.heap.size + 1, 0, none⟩ _).mono ?_;rintro e u' w'' ⟨rfl, rfl, rfl⟩;have hB2 := Lib.hid ((hB.setCell (p := ⟨w.heap.size, 0, none⟩) (Nat.le_refl _) (.int .i64 o)).setCell (p := ⟨w.heap.size + 1, 0, none⟩) (by simp) (.bool false));simp [Leaves, settle, results, Tryz.results45, go_sem, c1, c2, f1, f2];exact hB2.out
theorem parser_bad (o : Nat) (ho : o < 512) (h : 0 < o &&& 128 ∧ 0 < o &&& 2) (w : World) :
  Calls Tryz.prog 45 #[.int .i64 o] w fun e w' => e = .returned (.tuple #[.agg #[.int .i64 0], .bool true]) ∧ Below w.heap.size w w' := by
 have hmf : ∀ (fn : Fn) (first cap : Array Value) (w : World), (Instr.makeFunc fn first cap).run Tryz.prog w = .ok (.func fn first cap) w := fun _ _ _ _ => rfl
 go_enter_defers Tryz.func45, Tryz.ntmps45;go_wp2_with fail
 refine (newParser_bad o ho h _).mono ?_;rintro e w1 ⟨⟨t, x, rfl⟩, hb⟩;have hB : Below w.heap.size w w1 := (((Below.refl _ _).alloc (Nat.le_refl _) _).alloc (by simp) _).trans (hb.mono (by simp; omega));have c1 : w1.cell? ⟨w.heap.size, 0, none⟩ = some (.int .i64 0) := (hb.cell (p := ⟨w.heap.size, 0, none⟩) (by simp; omega)).trans (by simp [go_sem]);have c2 : w1.cell? ⟨w.heap.size + 1, 0, none⟩ = some (.bool false) := (hb.cell (p := ⟨w.heap.size + 1, 0, none⟩) (by simp)).trans (by simp [go_sem]);have f1 : w1.frozen? ⟨w.heap.size, 0, none⟩ = false := (hb.frozen (p := ⟨w.heap.size, 0, none⟩) (by simp; omega)).trans (by simp [go_sem]);have f2 : w1.frozen? ⟨w.heap.size + 1, 0, none⟩ = false := (hb.frozen (p := ⟨w.heap.size + 1, 0, none⟩) (by simp)).trans (by simp [go_sem]);have hz1 : w.heap.size + 1 < w1.heap.size := by have := hb.size; simp at this; omega
 clear hb;go_wp2_with fail
 refine leaves_cons (f := 94) (args := #[.pointer (some ⟨w.heap.size + 1, 0, none⟩)]) (by simp) (by simp [go_sem]) ?_;refine (catch_panicking ⟨w.heap.size + 1, 0, none⟩ false t x [] _ c2 f2).mono ?_;rintro e u' w'' ⟨rfl, rfl, rfl⟩;have hB2 := Lib.hid (hB.setCell (p := ⟨w.heap.size + 1, 0, none⟩) (by simp) (.bool true));simp [Leaves, settle, results, Tryz.results45, go_sem, c1, c2, f1, f2];exact hB2.out
def twoB (o : Nat) : Bool := decide (0 < o &&& 128) && decide (0 < o &&& 2)
end Go.Proofs.YtmecbmgfacpecaaGreatDoor.Cron
namespace Go.Proofs.YtmecbmgfacpecaaGreatDoor.Cron
open Go Go.RowKit Go.Proofs.YtmecbmgfacpecaaGreatDoor.Text Go.Proofs.YtmecbmgfacpecaaGreatDoor.Bits Go.Proofs.YtmecbmgfacpecaaGreatDoorW.PrintWords Go.Proofs.YtmecbmgfacpecaaGreatDoorW.PrintLast Go.Proofs.YtmecbmgfacpecaaGreatDoorW.PrintMore
def schedCells (l : List Nat) : Array Value := #[.bool false, .int .i64 0, .int .u64 (l.getD 0 0 : Nat), .int .u64 (l.getD 1 0 : Nat), .int .u64 (l.getD 2 0 : Nat), .int .u64 (l.getD 3 0 : Nat), .int .u64 (l.getD 4 0 : Nat), .int .u64 (l.getD 5 0 : Nat)]
def noSched : Array Value := #[.bool false, .int .i64 0, .int .u64 0, .int .u64 0, .int .u64 0, .int .u64 0, .int .u64 0, .int .u64 0]
theorem schedSize : (Tryz.prog.info? 26).map (·.size) = some 8 := by kernel_rfl
theorem results_sched {fn : Func} {p u : Tmp} (h : fn.results = #[.cell p 26, .tmp u]) (tmps : Array Value) (w : World) (g : Nat) (cs : Array Value) (h8 : cs.size = 8)
  (hp : tmps.getD p undef = .pointer (some ⟨g, 0, none⟩)) (hs : w.heap[g]? = some (.cells cs 26 (0, 0))) :
  (results fn tmps).run Tryz.prog w = .ok (.tuple #[.agg cs, tmps.getD u undef]) w := by
 rw [results_cell_tmp h, hp];simp only [asAddr, Sem.run_pure, Result.andThen_ok, run_loadVar_row w g _ _ _ _ _ hs Tryz.underlying26 rfl (by rw [schedSize, h8])]
section
variable {ops : Array Oper} {rest : List Oper} {o : Oper} {a : Act} {w : World} {Q : Exit → Act → World → Prop}
theorem wpList_store_sched (hg : o.guard = none) (x y : Operand) (ho : o.op = .store 26 x y) (g : Nat) (cs old : Array Value)
  (hx : a.eval x = .pointer (some ⟨g, 0, none⟩)) (hy : a.eval y = .agg cs) (h8 : cs.size = 8) (h1 : cs.all (·.oneCell') = true) (h8' : old.size = 8) (hs : w.heap[g]? = some (.cells old 26 (0, 0)))
  (h : wpList Tryz.prog ops Q rest (a.put o.dst undef) (w.setRow g cs)) : wpList Tryz.prog ops Q (o :: rest) a w :=
 wpList_store_row hg 26 x y ho g _ hx hy _ _ hs (by rw [schedSize, h8]) (by rw [h8, h8']) h1 h
end
theorem sched_one (l : List Nat) : (schedCells l).all (·.oneCell') = true := by simp [schedCells, Value.oneCell']
theorem noSched_one : noSched.all (·.oneCell') = true := by simp [noSched, Value.oneCell']
theorem plainSched_bad (s : Value) (t : TypeId) (x : Value) (w : World) :
  Calls Tryz.prog 46 #[s, .iface t x] w fun e w' => e = .returned (.tuple #[.agg noSched, .bool false]) ∧ Below w.heap.size w w' := by
 go_enter Tryz.func46, Tryz.ntmps46;go_wp2_with fail
 exact bodyPost_ret (v := .tuple #[.agg noSched, .bool false]) (by simp [results, Tryz.results46, go_sem, noSched]) rfl ⟨rfl, (Below.refl _ _).alloc (Nat.le_refl _) _⟩
set_option maxRecDepth 100000 in
theorem plainSched_ok (l : List Nat) (g : Nat) (loc : Option Addr) (w : World) (hc : w.heap[g]? = some (.cells (specCells l loc) 171 (0, 0))) :
  Calls Tryz.prog 46 #[.iface 169 (.pointer (some ⟨g, 0, none⟩)), .nilIface] w fun e w' => e = .returned (.tuple #[.agg (schedCells l), .bool true]) ∧ Below w.heap.size w w' := by
 have hlt : g < w.heap.size := (Array.getElem?_eq_some_iff.1 hc).1;have c0 : w.cell? ⟨g, 0, none⟩ = some (.int .u64 (l.getD 0 0 : Nat)) := cell_of_row _ _ _ _ _ _ hc;have c1 : w.cell? ⟨g, 1, none⟩ = some (.int .u64 (l.getD 1 0 : Nat)) := cell_of_row _ _ _ _ _ _ hc;have c2 : w.cell? ⟨g, 2, none⟩ = some (.int .u64 (l.getD 2 0 : Nat)) := cell_of_row _ _ _ _ _ _ hc;have c3 : w.cell? ⟨g, 3, none⟩ = some (.int .u64 (l.getD 3 0 : Nat)) := cell_of_row _ _ _ _ _ _ hc;have c4 : w.cell? ⟨g, 4, none⟩ = some (.int .u64 (l.getD 4 0 : Nat)) := cell_of_row _ _ _ _ _ _ hc;have c5 : w.cell? ⟨g, 5, none⟩ = some (.int .u64 (l.getD 5 0 : Nat)) := cell_of_row _ _ _ _ _ _ hc;unfold schedCells;clear hc;generalize l.getD 0 0 = a0 at *;generalize l.getD 1 0 = a1 at *;generalize l.getD 2 0 = a2 at *;generalize l.getD 3 0 = a3 at *;generalize l.getD 4 0 = a4 at *;generalize l.getD 5 0 = a5 at *;have hta : ∀ (v : Value) (w : World), (Instr.typeAssert (.iface 169 v) 110 169 true).run Tryz.prog w = .ok (.tuple #[v, .bool true]) w := fun v w => by rfl
 go_enter Tryz.func46, Tryz.ntmps46;go_wp2_with fail
 generalize hW : World.alloc w _ = w1;have hB1 : Below w.heap.size w w1 := by rw [← hW]; exact (Below.refl _ _).alloc (Nat.le_refl _) _
 have hrow : w1.heap[w.heap.size]? = some (.cells noSched 26 (0, 0)) := by rw [← hW]; exact heap_alloc_new w _
 clear hW;have d0 := (hB1.cell (p := ⟨g, 0, none⟩) hlt).trans c0;have d1 := (hB1.cell (p := ⟨g, 1, none⟩) hlt).trans c1;have d2 := (hB1.cell (p := ⟨g, 2, none⟩) hlt).trans c2;have d3 := (hB1.cell (p := ⟨g, 3, none⟩) hlt).trans c3;have d4 := (hB1.cell (p := ⟨g, 4, none⟩) hlt).trans c4;have d5 := (hB1.cell (p := ⟨g, 5, none⟩) hlt).trans c5;clear c0 c1 c2 c3 c4 c5;refine start_ (n := 27) (S := fun w' => w'.cell? ⟨g, 0, none⟩ = some (.int .u64 a0) ∧ w'.cell? ⟨g, 1, none⟩ = some (.int .u64 a1) ∧ w'.cell? ⟨g, 2, none⟩ = some (.int .u64 a2) ∧ w'.cell? ⟨g, 3, none⟩ = some (.int .u64 a3) ∧ w'.cell? ⟨g, 4, none⟩ = some (.int .u64 a4) ∧ w'.cell? ⟨g, 5, none⟩ = some (.int .u64 a5)) (ds := [25]) #[nn, nn, nn, nn, nn, nn, nn, nn, nn, nn, nn, nn, nn, nn, nn, nn, nn, nn, nn, nn, nn, nn, nn, nn, nn, nn, nn] (by kernel_rfl) rfl rfl ⟨d0, d1, d2, d3, d4, d5⟩ (fun hHeld => ?_);refine pure_ (i := 0) (N := some 15) (v := ?_) (a' := ?_) #[yy, nn, nn, nn, nn, nn, nn, nn, nn, nn, nn, nn, nn, nn, nn, nn, nn, nn, nn, nn, nn, nn, nn, nn, nn, nn, nn] rfl rfl (by kernel_rfl) (fun _ _ _ h => h) (Or.inl ⟨by rfl, ?_⟩) ?_ ?_;rotate_left
 ·intro w';go_simp;with_reducible rfl
 rotate_left
 ·simp only [nrm];rfl
 refine pure_ (i := 1) (N := some 16) (v := ?_) (a' := ?_) #[yy, yy, nn, nn, nn, nn, nn, nn, nn, nn, nn, nn, nn, nn, nn, nn, nn, nn, nn, nn, nn, nn, nn, nn, nn, nn, nn] rfl rfl (by kernel_rfl) (fun _ _ _ h => h) (Or.inl ⟨by rfl, ?_⟩) ?_ ?_;rotate_left
 ·intro w';go_simp;with_reducible rfl
 rotate_left
 ·simp only [nrm];rfl
 refine pure_ (i := 2) (N := some 17) (v := ?_) (a' := ?_) #[yy, yy, yy, nn, nn, nn, nn, nn, nn, nn, nn, nn, nn, nn, nn, nn, nn, nn, nn, nn, nn, nn, nn, nn, nn, nn, nn] rfl rfl (by kernel_rfl) (fun _ _ _ h => h) (Or.inl ⟨by rfl, ?_⟩) ?_ ?_;rotate_left
 ·intro w';go_simp;with_reducible rfl
 rotate_left
 ·simp only [nrm];rfl
 refine pure_ (i := 4) (N := some 19) (v := ?_) (a' := ?_) #[yy, yy, yy, nn, yy, nn, nn, nn, nn, nn, nn, nn, nn, nn, nn, nn, nn, nn, nn, nn, nn, nn, nn, nn, nn, nn, nn] rfl rfl (by kernel_rfl) (fun _ _ _ h => h) (Or.inl ⟨by rfl, ?_⟩) ?_ ?_;rotate_left
 ·intro w';go_simp;with_reducible rfl
 rotate_left
 ·simp only [nrm];rfl
 refine pure_ (i := 5) (N := some 20) (v := ?_) (a' := ?_) #[yy, yy, yy, nn, yy, yy, nn, nn, nn, nn, nn, nn, nn, nn, nn, nn, nn, nn, nn, nn, nn, nn, nn, nn, nn, nn, nn] rfl rfl (by kernel_rfl) (fun _ _ _ h => h) (Or.inl ⟨by rfl, ?_⟩) ?_ ?_;rotate_left
 ·intro w';go_simp;with_reducible rfl
 rotate_left
 ·simp only [nrm];rfl
 refine pure_ (i := 6) (N := some 21) (v := ?_) (a' := ?_) #[yy, yy, yy, nn, yy, yy, yy, nn, nn, nn, nn, nn, nn, nn, nn, nn, nn, nn, nn, nn, nn, nn, nn, nn, nn, nn, nn] rfl rfl (by kernel_rfl) (fun _ _ _ h => h) (Or.inl ⟨by rfl, ?_⟩) ?_ ?_;rotate_left
 ·intro w';go_simp;with_reducible rfl
 rotate_left
 ·simp only [nrm];rfl
 refine pure_ (i := 8) (N := some 23) (v := ?_) (a' := ?_) #[yy, yy, yy, nn, yy, yy, yy, nn, yy, nn, nn, nn, nn, nn, nn, nn, nn, nn, nn, nn, nn, nn, nn, nn, nn, nn, nn] rfl rfl (by kernel_rfl) (fun _ _ _ h => h) (Or.inl ⟨by rfl, ?_⟩) ?_ ?_;rotate_left
 ·intro w';go_simp;with_reducible rfl
 rotate_left
 ·simp only [nrm];rfl
 refine pure_ (i := 9) (N := some 24) (v := ?_) (a' := ?_) #[yy, yy, yy, nn, yy, yy, yy, nn, yy, yy, nn, nn, nn, nn, nn, nn, nn, nn, nn, nn, nn, nn, nn, nn, nn, nn, nn] rfl rfl (by kernel_rfl) (fun _ _ _ h => h) (Or.inl ⟨by rfl, ?_⟩) ?_ ?_;rotate_left
 ·intro w';go_simp;with_reducible rfl
 rotate_left
 ·simp only [nrm];rfl
 refine pure_ (i := 10) (N := some 25) (v := ?_) (a' := ?_) #[yy, yy, yy, nn, yy, yy, yy, nn, yy, yy, yy, nn, nn, nn, nn, nn, nn, nn, nn, nn, nn, nn, nn, nn, nn, nn, nn] rfl rfl (by kernel_rfl) (fun _ _ _ h => h) (Or.inl ⟨by rfl, ?_⟩) ?_ ?_;rotate_left
 ·intro w';go_simp;with_reducible rfl
 rotate_left
 ·simp only [nrm];rfl
 refine pure_ (i := 12) (N := some 27) (v := ?_) (a' := ?_) #[yy, yy, yy, nn, yy, yy, yy, nn, yy, yy, yy, nn, yy, nn, nn, nn, nn, nn, nn, nn, nn, nn, nn, nn, nn, nn, nn] rfl rfl (by kernel_rfl) (fun _ _ _ h => h) (Or.inl ⟨by rfl, ?_⟩) ?_ ?_;rotate_left
 ·intro w';go_simp;with_reducible rfl
 rotate_left
 ·simp only [nrm];rfl
 refine pure_ (i := 13) (N := some 28) (v := ?_) (a' := ?_) #[yy, yy, yy, nn, yy, yy, yy, nn, yy, yy, yy, nn, yy, yy, nn, nn, nn, nn, nn, nn, nn, nn, nn, nn, nn, nn, nn] rfl rfl (by kernel_rfl) (fun _ _ _ h => h) (Or.inl ⟨by rfl, ?_⟩) ?_ ?_;rotate_left
 ·intro w';go_simp;with_reducible rfl
 rotate_left
 ·simp only [nrm];rfl
 refine pure_ (i := 14) (N := some 29) (v := ?_) (a' := ?_) #[yy, yy, yy, nn, yy, yy, yy, nn, yy, yy, yy, nn, yy, yy, yy, nn, nn, nn, nn, nn, nn, nn, nn, nn, nn, nn, nn] rfl rfl (by kernel_rfl) (fun _ _ _ h => h) (Or.inl ⟨by rfl, ?_⟩) ?_ ?_;rotate_left
 ·intro w';go_simp;with_reducible rfl
 rotate_left
 ·simp only [nrm];rfl
 refine pure_ (i := 16) (N := some 31) (v := ?_) (a' := ?_) #[yy, yy, yy, nn, yy, yy, yy, nn, yy, yy, yy, nn, yy, yy, yy, nn, yy, nn, nn, nn, nn, nn, nn, nn, nn, nn, nn] rfl rfl (by kernel_rfl) (fun _ _ _ h => h) (Or.inl ⟨by rfl, ?_⟩) ?_ ?_;rotate_left
 ·intro w';go_simp;with_reducible rfl
 rotate_left
 ·simp only [nrm];rfl
 refine pure_ (i := 17) (N := some 32) (v := ?_) (a' := ?_) #[yy, yy, yy, nn, yy, yy, yy, nn, yy, yy, yy, nn, yy, yy, yy, nn, yy, yy, nn, nn, nn, nn, nn, nn, nn, nn, nn] rfl rfl (by kernel_rfl) (fun _ _ _ h => h) (Or.inl ⟨by rfl, ?_⟩) ?_ ?_;rotate_left
 ·intro w';go_simp;with_reducible rfl
 rotate_left
 ·simp only [nrm];rfl
 refine pure_ (i := 18) (N := some 33) (v := ?_) (a' := ?_) #[yy, yy, yy, nn, yy, yy, yy, nn, yy, yy, yy, nn, yy, yy, yy, nn, yy, yy, yy, nn, nn, nn, nn, nn, nn, nn, nn] rfl rfl (by kernel_rfl) (fun _ _ _ h => h) (Or.inl ⟨by rfl, ?_⟩) ?_ ?_;rotate_left
 ·intro w';go_simp;with_reducible rfl
 rotate_left
 ·simp only [nrm];rfl
 refine pure_ (i := 20) (N := some 35) (v := ?_) (a' := ?_) #[yy, yy, yy, nn, yy, yy, yy, nn, yy, yy, yy, nn, yy, yy, yy, nn, yy, yy, yy, nn, yy, nn, nn, nn, nn, nn, nn] rfl rfl (by kernel_rfl) (fun _ _ _ h => h) (Or.inl ⟨by rfl, ?_⟩) ?_ ?_;rotate_left
 ·intro w';go_simp;with_reducible rfl
 rotate_left
 ·simp only [nrm];rfl
 refine pure_ (i := 21) (N := some 36) (v := ?_) (a' := ?_) #[yy, yy, yy, nn, yy, yy, yy, nn, yy, yy, yy, nn, yy, yy, yy, nn, yy, yy, yy, nn, yy, yy, nn, nn, nn, nn, nn] rfl rfl (by kernel_rfl) (fun _ _ _ h => h) (Or.inl ⟨by rfl, ?_⟩) ?_ ?_;rotate_left
 ·intro w';go_simp;with_reducible rfl
 rotate_left
 ·simp only [nrm];rfl
 refine pure_ (i := 22) (N := some 37) (v := ?_) (a' := ?_) #[yy, yy, yy, nn, yy, yy, yy, nn, yy, yy, yy, nn, yy, yy, yy, nn, yy, yy, yy, nn, yy, yy, yy, nn, nn, nn, nn] rfl rfl (by kernel_rfl) (fun _ _ _ h => h) (Or.inl ⟨by rfl, ?_⟩) ?_ ?_;rotate_left
 ·intro w';go_simp;with_reducible rfl
 rotate_left
 ·simp only [nrm];rfl
 refine take_ (i := 3) (N := some 18) (v := ?_) (a' := ?_) #[yy, yy, yy, yy, yy, yy, yy, nn, yy, yy, yy, nn, yy, yy, yy, nn, yy, yy, yy, nn, yy, yy, yy, nn, nn, nn, nn] rfl rfl (by kernel_rfl) (fun _ _ _ h => h) (Or.inl ⟨by rfl, ?_⟩) hHeld ?_ ?_;rotate_left
 ·rintro w' ⟨s0, s1, s2, s3, s4, s5⟩;go_simp;with_reducible rfl
 rotate_left
 ·simp only [nrm];rfl
 refine take_ (i := 7) (N := some 22) (v := ?_) (a' := ?_) #[yy, yy, yy, yy, yy, yy, yy, yy, yy, yy, yy, nn, yy, yy, yy, nn, yy, yy, yy, nn, yy, yy, yy, nn, nn, nn, nn] rfl rfl (by kernel_rfl) (fun _ _ _ h => h) (Or.inl ⟨by rfl, ?_⟩) hHeld ?_ ?_;rotate_left
 ·rintro w' ⟨s0, s1, s2, s3, s4, s5⟩;go_simp;with_reducible rfl
 rotate_left
 ·simp only [nrm];rfl
 refine take_ (i := 11) (N := some 26) (v := ?_) (a' := ?_) #[yy, yy, yy, yy, yy, yy, yy, yy, yy, yy, yy, yy, yy, yy, yy, nn, yy, yy, yy, nn, yy, yy, yy, nn, nn, nn, nn] rfl rfl (by kernel_rfl) (fun _ _ _ h => h) (Or.inl ⟨by rfl, ?_⟩) hHeld ?_ ?_;rotate_left
 ·rintro w' ⟨s0, s1, s2, s3, s4, s5⟩;go_simp;with_reducible rfl
 rotate_left
 ·simp only [nrm];rfl
 refine take_ (i := 15) (N := some 30) (v := ?_) (a' := ?_) #[yy, yy, yy, yy, yy, yy, yy, yy, yy, yy, yy, yy, yy, yy, yy, yy, yy, yy, yy, nn, yy, yy, yy, nn, nn, nn, nn] rfl rfl (by kernel_rfl) (fun _ _ _ h => h) (Or.inl ⟨by rfl, ?_⟩) hHeld ?_ ?_;rotate_left
 ·rintro w' ⟨s0, s1, s2, s3, s4, s5⟩;go_simp;with_reducible rfl
 rotate_left
 ·simp only [nrm];rfl
 refine take_ (i := 19) (N := some 34) (v := ?_) (a' := ?_) #[yy, yy, yy, yy, yy, yy, yy, yy, yy, yy, yy, yy, yy, yy, yy, yy, yy, yy, yy, yy, yy, yy, yy, nn, nn, nn, nn] rfl rfl (by kernel_rfl) (fun _ _ _ h => h) (Or.inl ⟨by rfl, ?_⟩) hHeld ?_ ?_;rotate_left
 ·rintro w' ⟨s0, s1, s2, s3, s4, s5⟩;go_simp;with_reducible rfl
 rotate_left
 ·simp only [nrm];rfl
 refine take_ (i := 23) (N := some 38) (v := ?_) (a' := ?_) #[yy, yy, yy, yy, yy, yy, yy, yy, yy, yy, yy, yy, yy, yy, yy, yy, yy, yy, yy, yy, yy, yy, yy, yy, nn, nn, nn] rfl rfl (by kernel_rfl) (fun _ _ _ h => h) (Or.inl ⟨by rfl, ?_⟩) hHeld ?_ ?_;rotate_left
 ·rintro w' ⟨s0, s1, s2, s3, s4, s5⟩;go_simp;with_reducible rfl
 rotate_left
 ·simp only [nrm];rfl
 refine pure_ (i := 24) (N := some 39) (v := ?_) (a' := ?_) #[yy, yy, yy, yy, yy, yy, yy, yy, yy, yy, yy, yy, yy, yy, yy, yy, yy, yy, yy, yy, yy, yy, yy, yy, yy, nn, nn] rfl rfl (by kernel_rfl) (fun _ _ _ h => h) (Or.inl ⟨by rfl, ?_⟩) ?_ ?_;rotate_left
 ·intro w';go_simp;with_reducible rfl
 rotate_left
 ·simp only [nrm];rfl
 refine last_ (i := 25) (N := none) #[yy, yy, yy, yy, yy, yy, yy, yy, yy, yy, yy, yy, yy, yy, yy, yy, yy, yy, yy, yy, yy, yy, yy, yy, yy, yy, nn] rfl rfl (by kernel_rfl) (by decide) (fun K hK => ?_);rw [if_pos (by rfl)];refine wp_store_row 26 _ _ rfl w.heap.size #[.bool false, .int .i64 0, .int .u64 a0, .int .u64 a1, .int .u64 a2, .int .u64 a3, .int .u64 a4, .int .u64 a5] rfl rfl 26 noSched hrow schedSize rfl (by simp [Value.oneCell']) ?_;refine hK.out _ _ ?_;clear hK K;refine pure_ (i := 26) (N := some 5) (v := ?_) (a' := ?_) #[yy, yy, yy, yy, yy, yy, yy, yy, yy, yy, yy, yy, yy, yy, yy, yy, yy, yy, yy, yy, yy, yy, yy, yy, yy, yy, yy] rfl rfl (by kernel_rfl) (fun _ _ _ h => h) (Or.inl ⟨by rfl, ?_⟩) ?_ ?_;rotate_left
 ·intro w';go_simp;with_reducible rfl
 rotate_left
 ·simp only [nrm];rfl
 refine done_ (by kernel_rfl) ?_;go_wp2_with fail
 refine bodyPost_ret (v := .tuple #[.agg #[.bool false, .int .i64 0, .int .u64 a0, .int .u64 a1, .int .u64 a2, .int .u64 a3, .int .u64 a4, .int .u64 a5], .bool true]) ?_ rfl ⟨rfl, ?_⟩
 ·exact results_sched (fn := Tryz.f46) (p := 4) (u := 5) rfl _ _ w.heap.size _ rfl rfl (setRow_heap _ _ _ _ _ _ hrow)
 ·exact below_setRow (hB1.drew) (Nat.le_refl _) _
theorem twoB_iff (o : Nat) : twoB o = true ↔ 0 < o &&& 128 ∧ 0 < o &&& 2 := by
 unfold twoB;rw [Bool.and_eq_true, decide_eq_true_iff, decide_eq_true_iff]
end Go.Proofs.YtmecbmgfacpecaaGreatDoor.Cron
