/- Lemmas and walks on the way to the law, merged by wip/tools/pack.py: RowStrs, Base, Number, Laid, Time, Locks. Conditions: none. -/
import Derived.Test.YtmecbmgfacpecaaGreatDoorRows
import Derived.Test.YtmecbmgfacpecaaGreatDoorWWordsT
import Derived.ProofKit
import Derived.OpenShut
import Derived.Deep.Fields
import Derived.WalkLawsBesides
import Derived.WalkSpells
import Derived.Test.YtmecbmgfacpecaaGreatDoorShelfT
import Derived.Lib.LaidU8
import Derived.MakeChecks
import Derived.Stop.Joined
import Derived.Conc.RwLib
import Derived.Conc.MuData
set_option linter.unusedVariables false
set_option linter.unusedSimpArgs false
namespace Go.Proofs.YtmecbmgfacpecaaGreatDoor.RowStrs
open Go Go.Proofs.YtmecbmgfacpecaaGreatDoor Go.ChangeShapes Go.WideShapes Go.ChangeAt Go.RowKit Go.Deep Go.Proofs.YtmecbmgfacpecaaGreatDoorW.PrintWords
theorem laidOut : laidOutB Tryz.prog = true := by kernel_rfl
theorem cells_str : Tryz.prog.cellsOf 9 = 1 := by kernel_rfl
theorem c_strs {w : World} {a : Addr} {len : Nat} {zs : List ByteArray} (hl : len ≤ zs.length) (hm : len ≤ 9223372036854775807) (hc : ∀ i, i < zs.length → w.cell? (a.add i) = some (.string (zs.getD i ByteArray.empty))) : Kd.C Kd.string w (some a) (zs.take len).length (zs.take len) :=
 ⟨rfl, by rw [List.length_take]; omega, fun _ => ⟨a, rfl, fun j p hp => ⟨[.string p], rfl, rfl, fun i u hu => by
  cases i with
  | succ i => cases hu
  | zero =>
   obtain rfl : u = .string p := by simpa using hu.symm
   have hj := (List.getElem?_eq_some_iff.1 hp).1;rw [List.length_take] at hj;rw [show j * Kd.string.sz + 0 = j from by show j * 1 + 0 = j; omega, hc j (by omega)];rw [List.getElem?_take_of_lt (by omega)] at hp;rw [List.getD_eq_getElem?_getD, hp];rfl⟩⟩⟩
set_option maxRecDepth 100000 in
theorem open_strs {H : Type} {enc : TypeId × Value → H} {w W : World} {spare : Nat → Bool} {held : Bool} {base b2 : Nat} {r : Reach} {v : Value} {d : DataW H} {p : List MemPlace} (hv : Value.okWide Tryz.prog W r b2 33 v)
  (h : DataW.Trod enc Tryz.prog w base spare held 33 v d p) : ∃ (A : Option Addr) (l : List ByteArray) (cap : Nat), (l.length ≤ cap ∧ Kd.C Kd.string w A l.length l) ∧ v = .slice A l.length cap := by
 obtain ⟨a0, n0, c0, rfl⟩ := okWide_slice Tryz.underlying33 hv;obtain ⟨fuel, hf⟩ := h;rcases Go.ChangeShapes.open_strings Tryz.underlying33 Tryz.underlying9 cells_str hf with ⟨hcs, -⟩ | ⟨a, len, cap, zs, hcs, hb, hl, hm, hz, -, hcell, hwf⟩
 ·have e : Value.slice a0 n0 c0 = .slice none 0 0 := (List.cons.inj (show [Value.slice a0 n0 c0] = [.slice none 0 0] from hcs)).1;rw [e];exact ⟨none, [], 0, ⟨by simp, rfl, by simp, fun h => by simp at h⟩, rfl⟩
 ·have e : Value.slice a0 n0 c0 = .slice (some a) len cap := (List.cons.inj (show [Value.slice a0 n0 c0] = [.slice (some a) len cap] from hcs)).1;rw [e];have hlz : len ≤ zs.length := by rw [hz]; split <;> omega
  have hlt : (zs.take len).length = len := by rw [List.length_take]; omega
  exact ⟨some a, zs.take len, cap, ⟨by omega, c_strs hlz (by simp only [maxLen] at hm; omega) hcell⟩, by rw [hlt]⟩
end Go.Proofs.YtmecbmgfacpecaaGreatDoor.RowStrs
namespace Go.Proofs.YtmecbmgfacpecaaGreatDoor.Cron
open Go Go.RowKit
theorem bcell {W w1 : World} (hb : Below W.heap.size W w1) : (∀ b o, b < W.heap.size → w1.cell? ⟨b, o, none⟩ = W.cell? ⟨b, o, none⟩) ∧ (∀ b o, b < W.heap.size → w1.frozen? ⟨b, o, none⟩ = W.frozen? ⟨b, o, none⟩) :=
 ⟨fun b o h => hb.cell (p := ⟨b, o, none⟩) h, fun b o h => hb.frozen (p := ⟨b, o, none⟩) h⟩
theorem below_of_le {W w1 w2 : World} (h1 : Below W.heap.size W w1) (h2 : Below w1.heap.size w1 w2) : Below W.heap.size W w2 :=
 h1.trans (h2.mono h1.size)
theorem errorsNew_any (s : ByteArray) (w : World) :
  Calls Tryz.prog 96 #[.string s] w fun e w' => ∃ t x, e = .returned (.iface t x) ∧ Below w.heap.size w w' := by
 go_enter Tryz.func96, Tryz.ntmps96;go_wp2
 go_ret;exact ⟨_, _, rfl, (Below.refl _ _).alloc (Nat.le_refl _) _⟩
def G (w : World) : Prop :=
 (∃ tp p, w.var? Tryz.prog "strconv.ErrSyntax" = some #[.iface tp p]) ∧ (∃ tp p, w.var? Tryz.prog "strconv.ErrRange" = some #[.iface tp p])
theorem gSyntax : Tryz.prog.globalNamed "strconv.ErrSyntax" = some 7 := by kernel_rfl
theorem gRange : Tryz.prog.globalNamed "strconv.ErrRange" = some 8 := by kernel_rfl
theorem lt_of_var {w : World} {n : String} {g : Nat} {v : Value} (hg : Tryz.prog.globalNamed n = some g) (h : w.var? Tryz.prog n = some #[v]) : g < w.heap.size := by
 have := World.var?_cell hg h 0;exact Lib.lt_of_cell (show w.cell? ⟨g, 0, none⟩ = some v by simpa using this)
theorem G.below {w w' : World} (h : G w) (hb : Below w.heap.size w w') : G w' := by
 obtain ⟨⟨t, p, h1⟩, t', p', h2⟩ := h;exact ⟨⟨t, p, var?_below hb gSyntax (lt_of_var gSyntax h1) h1⟩, t', p', var?_below hb gRange (lt_of_var gRange h2) h2⟩
def mp (l : List UInt8) : Option Nat :=
 match Lib.atoiAll l with
 | .ok v => if 0 ≤ v then some v.toNat else none
 | _ => none
theorem mp_le {l : List UInt8} {n : Nat} (h : mp l = some n) : n ≤ 9223372036854775807 := by
 unfold mp at h;split at h
 ·rename_i v hv
  have := Lib.atoiAll_bounds hv;split at h
  ·injection h with h
   omega
  ·cases h
 ·cases h
theorem atoi_ok (s : ByteArray) (hs : s.size ≤ 281474976710656) (v : Int) (h : Lib.atoiAll s.data.toList = .ok v) (w : World) :
  Calls Tryz.prog 207 #[.string s] w fun e w' => e = .returned (.tuple #[.int .i64 v, .nilIface]) ∧ Below w.heap.size w w' :=
 (Tryz.strconv_Atoi_ok s (by omega) v h w).mono fun e w' ⟨he, hw⟩ => ⟨he, by
  rcases hw with rfl | ⟨t, rfl⟩
  ·exact Below.refl _ _
  ·exact Lib.bytesWorld_below _ _ _⟩
theorem atoi_bad (s : ByteArray) (hs : s.size ≤ 281474976710656) (h : ∀ v, Lib.atoiAll s.data.toList ≠ .ok v) (w : World) (hg : G w) :
  Calls Tryz.prog 207 #[.string s] w fun e w' => ∃ v t x, e = .returned (.tuple #[.int .i64 v, .iface t x]) ∧ Below w.heap.size w w' := by
 obtain ⟨⟨t, p, h1⟩, t', p', h2⟩ := hg;rcases e : Lib.atoiAll s.data.toList with v | _ | _
 ·exact absurd e (h v)
 ·exact (Tryz.strconv_Atoi_syntax_var s hs h (by simp [e]) t p w h1).mono fun e w' ⟨N, he, _, _, hb⟩ => ⟨_, _, _, he, hb⟩
 ·exact (Tryz.strconv_Atoi_range_var s hs e t' p' w h2).mono fun e w' ⟨N, he, _, _, hb⟩ => ⟨_, _, _, he, hb⟩
theorem mustParse_ok (s : ByteArray) (hs : s.size ≤ 281474976710656) (n : Nat) (h : mp s.data.toList = some n) (w : World) :
  Calls Tryz.prog 181 #[.string s] w fun e w' => e = .returned (.tuple #[.int .u64 n, .nilIface]) ∧ Below w.heap.size w w' := by
 have hn := mp_le h
 have hv : Lib.atoiAll s.data.toList = .ok n := by
  unfold mp at h;split at h
  ·rename_i v hv
   split at h
   ·injection h with h
    rw [hv, show (v : Int) = (n : Nat) by omega]
   ·cases h
  ·cases h
 have H := atoi_ok s hs n hv w;clear h hv;go_enter Tryz.func181, Tryz.ntmps181;go_wp2_with (go_at_call 207; refine H.mono ?_; rintro e w' ⟨rfl, hb⟩)
 go_ret2;exact ⟨rfl, hb⟩
theorem mustParse_bad (s : ByteArray) (hs : s.size ≤ 281474976710656) (h : mp s.data.toList = none) (w : World) (hg : G w) :
  Calls Tryz.prog 181 #[.string s] w fun e w' => ∃ t x, e = .returned (.tuple #[.int .u64 0, .iface t x]) ∧ Below w.heap.size w w' := by
 by_cases hk : ∃ v, Lib.atoiAll s.data.toList = .ok v
 ·obtain ⟨v, hv⟩ := hk
  have hneg : v < 0 := by
   unfold mp at h;rw [hv] at h;simp at h;omega
  have H := atoi_ok s hs v hv w;clear h hv;go_enter Tryz.func181, Tryz.ntmps181;go_wp2_with (first | (go_at_call 207; refine H.mono ?_; rintro e w' ⟨rfl, hb⟩) | (go_at_call 96; refine (errorsNew_any _ _).mono ?_; rintro e w'' ⟨t, x, rfl, hb2⟩))
  go_ret2;exact ⟨t, x, rfl, below_of_le hb hb2⟩
 ·have H := atoi_bad s hs (fun v hv => hk ⟨v, hv⟩) w hg;clear h hk;go_enter Tryz.func181, Tryz.ntmps181;go_wp2_with (first | (go_at_call 207; refine H.mono ?_; rintro e w' ⟨v, t, x, rfl, hb⟩) | (go_at_call 96; refine (errorsNew_any _ _).mono ?_; rintro e w'' ⟨t2, x2, rfl, hb2⟩))
  go_ret2;exact ⟨t2, x2, rfl, below_of_le hb hb2⟩
theorem valueNil_ok (s : ByteArray) (hs : s.size ≤ 281474976710656) (n : Nat) (h : mp s.data.toList = some n) (w : World) :
  Calls Tryz.prog 180 #[.string s, .map none] w fun e w' => e = .returned (.tuple #[.int .u64 n, .nilIface]) ∧ Below w.heap.size w w' := by
 have hm := fun w : World => run_neq_map_nil (P := Tryz.prog) w 183 _ _ none Tryz.underlying183
 go_enter Tryz.func180, Tryz.ntmps180;go_wp2_with (go_at_call 181; refine (mustParse_ok s hs n h _).mono ?_; rintro e w' ⟨rfl, hb⟩)
 go_ret2;exact ⟨rfl, hb⟩
theorem valueNil_bad (s : ByteArray) (hs : s.size ≤ 281474976710656) (h : mp s.data.toList = none) (w : World) (hg : G w) :
  Calls Tryz.prog 180 #[.string s, .map none] w fun e w' => ∃ t x, e = .returned (.tuple #[.int .u64 0, .iface t x]) ∧ Below w.heap.size w w' := by
 have hm := fun w : World => run_neq_map_nil (P := Tryz.prog) w 183 _ _ none Tryz.underlying183
 go_enter Tryz.func180, Tryz.ntmps180;go_wp2_with (go_at_call 181; refine (mustParse_bad s hs h _ hg).mono ?_; rintro e w' ⟨t, x, rfl, hb⟩)
 go_ret2;exact ⟨t, x, rfl, hb⟩
theorem iface_of_trod {H : Type} {enc : TypeId × Value → H} {P : Program} {w : World} {base : Nat} {sp : Nat → Bool} {held : Bool} {fuel : Nat} {t : TypeId} {ms : Array (String × TypeId)} {cs : List Value} {nm : String} {d : DataW H} {p : List MemPlace}
  (hu : P.underlying t = some (.interface ms)) (h : DataW.trod enc P w base sp held fuel t cs = some (.iface nm d, p)) : ∃ u v, cs = [.iface u v] := by
 cases fuel with
 | zero => cases h
 | succ n =>
  unfold DataW.trod at h;rw [hu] at h;match cs, h with
  | [], h => simp at h
  | [c], h => cases c <;> first | exact ⟨_, _, rfl⟩ | (simp at h)
  | _ :: _ :: _, h => simp at h
theorem sentinel_reads {P : Program} {w : World} {n nm : String} {d : DataW Unit} {g : Nat} {t : TypeId} {ms : Array (String × TypeId)} (hg : P.globalNamed n = some g) (ht : (P.globals[g]?).map (·.type) = some t) (hu : P.underlying t = some (.interface ms))
  (h : Lib.VarReads P w n (.iface nm d)) : ∃ u v, w.var? P n = some #[.iface u v] := by
 obtain ⟨g', t', cs, fuel, p, hg', ht', hv, hd⟩ := h;obtain rfl := Option.some.inj (hg.symm.trans hg');obtain rfl := Option.some.inj (ht.symm.trans ht');obtain ⟨u, v, e⟩ := iface_of_trod hu hd;refine ⟨u, v, ?_⟩;rw [hv];obtain ⟨l⟩ := cs;simp only at e;rw [e]
theorem tSyntax : (Tryz.prog.globals[7]?).map (·.type) = some 112 := by kernel_rfl
theorem tRange : (Tryz.prog.globals[8]?).map (·.type) = some 112 := by kernel_rfl
theorem g_of_met {laid : List (String × DataW Unit)} {w : World} {nm1 nm2 : String} {d1 d2 : DataW Unit} (h : laidMet Tryz.prog laid w) (h1 : ("strconv.ErrSyntax", DataW.iface nm1 d1) ∈ laid) (h2 : ("strconv.ErrRange", DataW.iface nm2 d2) ∈ laid) : G w :=
 ⟨sentinel_reads gSyntax tSyntax Tryz.underlying112 (Lib.laidMet.reads h h1), sentinel_reads gRange tRange Tryz.underlying112 (Lib.laidMet.reads h h2)⟩
end Go.Proofs.YtmecbmgfacpecaaGreatDoor.Cron
namespace Go.Proofs.YtmecbmgfacpecaaGreatDoor.Cal
open Go Go.RowKit
theorem utc_any (w : World) :
  Calls Tryz.prog 125 #[] w fun e' w' => e' = .returned (.pointer (some ⟨w.heap.size, 0, none⟩)) ∧ w'.cell? ⟨w.heap.size, 0, none⟩ = some (.bool true) ∧ w'.cell? ⟨w.heap.size, 2, none⟩ = some (.slice none 0 0) ∧ Below w.heap.size w w' ∧ w.heap.size < w'.heap.size := by
 go_enter Tryz.func125, Tryz.ntmps125;go_wp2_with fail
 go_ret;refine ⟨rfl, by simp [go_sem], by simp [go_sem], (Below.refl _ _).alloc (Nat.le_refl _) _, by simp⟩
end Go.Proofs.YtmecbmgfacpecaaGreatDoor.Cal
namespace Go.Proofs
abbrev Tryz.muLink : Go.Conc.Locks.MuLink := { lock := 114, unlock := 115, ilock := 154, iunlock := 155, lockSlow := 186, unlockSlow := 189, disable := 182, enable := 184, acquire := 185, relMerge := 187, cas32 := 183, add32 := 188, tMutex := 204, tIMutex := 202, tPMutex := 260, tPIMutex := 306, tPI32 := 308, tUP := 310, tNoCopy := 199, tU32 := 200 }
theorem Tryz.muLib : Go.Conc.Locks.MuLib Tryz.prog Tryz.muLink :=
 ⟨Tryz.func114, Tryz.func115, Tryz.func154, Tryz.func155, Tryz.func182, Tryz.func184, Tryz.func185, Tryz.func187, Tryz.func183, Tryz.func188, Tryz.underlying202, Tryz.runUnderlying202, Tryz.sizeOf202, Tryz.isAgg202, Tryz.zeroValue202, Tryz.underlying204, Tryz.runUnderlying204, Tryz.sizeOf204, Tryz.isAgg204, Tryz.zeroValue204, Tryz.underlying260, Tryz.runUnderlying260, Tryz.sizeOf260, Tryz.isAgg260, Tryz.zeroValue260, Tryz.underlying306, Tryz.runUnderlying306, Tryz.sizeOf306, Tryz.isAgg306, Tryz.zeroValue306, Tryz.underlying308, Tryz.runUnderlying308, Tryz.sizeOf308, Tryz.isAgg308, Tryz.zeroValue308, Tryz.underlying310, Tryz.runUnderlying310, Tryz.sizeOf310, Tryz.isAgg310, Tryz.zeroValue310, Tryz.underlying199, Tryz.runUnderlying199, Tryz.sizeOf199, Tryz.isAgg199, Tryz.zeroValue199, Tryz.underlying21, Tryz.runUnderlying21, Tryz.sizeOf21, Tryz.isAgg21, Tryz.zeroValue21, (by kernel_rfl)⟩
end Go.Proofs
