/- Lemmas and walks on the way to the law, merged by wip/tools/pack.py: Base, Number, Laid. Conditions: none. -/
import Derived.Test.YtikgnpachlgakaaGreatDoorProg
import Derived.WalkKit
import Derived.OwnWalk
import Derived.Lib.Hide
import Derived.Below
import Derived.WalkSmall
import Derived.WalkLawsBesides
import Derived.WalkSpells
import Derived.Test.YtikgnpachlgakaaGreatDoorShelf
import Derived.Lib.LaidU8
import Derived.MakeChecks
import Derived.Stop.Joined
namespace Go.Proofs.YtikgnpachlgakaaGreatDoor.Cron
open Go Go.RowKit

theorem bcell {W w1 : World} (hb : Below W.heap.size W w1) : (∀ b o, b < W.heap.size → w1.cell? ⟨b, o, none⟩ = W.cell? ⟨b, o, none⟩) ∧ (∀ b o, b < W.heap.size → w1.frozen? ⟨b, o, none⟩ = W.frozen? ⟨b, o, none⟩) :=
  ⟨fun b o h => hb.cell (p := ⟨b, o, none⟩) h, fun b o h => hb.frozen (p := ⟨b, o, none⟩) h⟩

theorem below_of_le {W w1 w2 : World} (h1 : Below W.heap.size W w1) (h2 : Below w1.heap.size w1 w2) : Below W.heap.size W w2 :=
  h1.trans (h2.mono h1.size)

/-- an error that is not nil -/
def ErrIs (v : Value) : Prop := ∃ t x, v = .iface t x

theorem errorsNew_any (s : ByteArray) (w : World) :
    Calls Tryz.prog 26 #[.string s] w fun e w' => ∃ t x, e = .returned (.iface t x) ∧ Below w.heap.size w w' := by
  go_enter Tryz.func26, Tryz.ntmps26
  go_wp2
  go_ret
  exact ⟨_, _, rfl, (Below.refl _ _).alloc (Nat.le_refl _) _⟩

end Go.Proofs.YtikgnpachlgakaaGreatDoor.Cron

namespace Go.Proofs.YtikgnpachlgakaaGreatDoor.Cron
open Go Go.RowKit
set_option linter.unusedVariables false

/-- what the variables of package strconv hold: the two errors -/
def G (w : World) : Prop :=
  (∃ tp p, w.var? Tryz.prog "strconv.ErrSyntax" = some #[.iface tp p]) ∧ (∃ tp p, w.var? Tryz.prog "strconv.ErrRange" = some #[.iface tp p])

theorem gSyntax : Tryz.prog.globalNamed "strconv.ErrSyntax" = some 4 := by kernel_rfl
theorem gRange : Tryz.prog.globalNamed "strconv.ErrRange" = some 5 := by kernel_rfl

theorem lt_of_var {w : World} {n : String} {g : Nat} {v : Value} (hg : Tryz.prog.globalNamed n = some g) (h : w.var? Tryz.prog n = some #[v]) : g < w.heap.size := by
  have := World.var?_cell hg h 0
  exact Lib.lt_of_cell (show w.cell? ⟨g, 0, none⟩ = some v by simpa using this)

theorem G.below {w w' : World} (h : G w) (hb : Below w.heap.size w w') : G w' := by
  obtain ⟨⟨t, p, h1⟩, t', p', h2⟩ := h
  exact ⟨⟨t, p, var?_below hb gSyntax (lt_of_var gSyntax h1) h1⟩, t', p', var?_below hb gRange (lt_of_var gRange h2) h2⟩

/-- the number that a text means to mustParseInt -/
def mp (l : List UInt8) : Option Nat :=
  match Lib.atoiAll l with
  | .ok v => if 0 ≤ v then some v.toNat else none
  | _ => none

theorem mp_le {l : List UInt8} {n : Nat} (h : mp l = some n) : n ≤ 9223372036854775807 := by
  unfold mp at h
  split at h
  · rename_i v hv
    have := Lib.atoiAll_bounds hv
    split at h
    · injection h with h
      omega
    · cases h
  · cases h

theorem bytesWorld_le (w : World) (t : Nat) (x : ByteArray) : True := trivial

theorem atoi_ok (s : ByteArray) (hs : s.size ≤ 281474976710656) (v : Int) (h : Lib.atoiAll s.data.toList = .ok v) (w : World) :
    Calls Tryz.prog 83 #[.string s] w fun e w' => e = .returned (.tuple #[.int .i64 v, .nilIface]) ∧ Below w.heap.size w w' :=
  (Tryz.strconv_Atoi_ok s (by omega) v h w).mono fun e w' ⟨he, hw⟩ => ⟨he, by
    rcases hw with rfl | ⟨t, rfl⟩
    · exact Below.refl _ _
    · exact Lib.bytesWorld_below _ _ _⟩

theorem atoi_bad (s : ByteArray) (hs : s.size ≤ 281474976710656) (h : ∀ v, Lib.atoiAll s.data.toList ≠ .ok v) (w : World) (hg : G w) :
    Calls Tryz.prog 83 #[.string s] w fun e w' => ∃ v t x, e = .returned (.tuple #[.int .i64 v, .iface t x]) ∧ Below w.heap.size w w' := by
  obtain ⟨⟨t, p, h1⟩, t', p', h2⟩ := hg
  rcases e : Lib.atoiAll s.data.toList with v | _ | _
  · exact absurd e (h v)
  · exact (Tryz.strconv_Atoi_syntax_var s hs h (by simp [e]) t p w h1).mono fun e w' ⟨N, he, _, _, hb⟩ => ⟨_, _, _, he, hb⟩
  · exact (Tryz.strconv_Atoi_range_var s hs e t' p' w h2).mono fun e w' ⟨N, he, _, _, hb⟩ => ⟨_, _, _, he, hb⟩

theorem mustParse_ok (s : ByteArray) (hs : s.size ≤ 281474976710656) (n : Nat) (h : mp s.data.toList = some n) (w : World) :
    Calls Tryz.prog 73 #[.string s] w fun e w' => e = .returned (.tuple #[.int .u64 n, .nilIface]) ∧ Below w.heap.size w w' := by
  have hn := mp_le h
  have hv : Lib.atoiAll s.data.toList = .ok n := by
    unfold mp at h
    split at h
    · rename_i v hv
      split at h
      · injection h with h
        rw [hv, show (v : Int) = (n : Nat) by omega]
      · cases h
    · cases h
  have H := atoi_ok s hs n hv w
  clear h hv
  go_enter Tryz.func73, Tryz.ntmps73
  go_wp2_with (go_at_call 83; refine H.mono ?_; rintro e w' ⟨rfl, hb⟩)
  go_ret2
  exact ⟨rfl, hb⟩

theorem mustParse_bad (s : ByteArray) (hs : s.size ≤ 281474976710656) (h : mp s.data.toList = none) (w : World) (hg : G w) :
    Calls Tryz.prog 73 #[.string s] w fun e w' => ∃ t x, e = .returned (.tuple #[.int .u64 0, .iface t x]) ∧ Below w.heap.size w w' := by
  by_cases hk : ∃ v, Lib.atoiAll s.data.toList = .ok v
  · obtain ⟨v, hv⟩ := hk
    have hneg : v < 0 := by
      unfold mp at h
      rw [hv] at h
      simp at h
      omega
    have H := atoi_ok s hs v hv w
    clear h hv
    go_enter Tryz.func73, Tryz.ntmps73
    go_wp2_with (first | (go_at_call 83; refine H.mono ?_; rintro e w' ⟨rfl, hb⟩) | (go_at_call 26; refine (errorsNew_any _ _).mono ?_; rintro e w'' ⟨t, x, rfl, hb2⟩))
    go_ret2
    exact ⟨t, x, rfl, below_of_le hb hb2⟩
  · have H := atoi_bad s hs (fun v hv => hk ⟨v, hv⟩) w hg
    clear h hk
    go_enter Tryz.func73, Tryz.ntmps73
    go_wp2_with (first | (go_at_call 83; refine H.mono ?_; rintro e w' ⟨v, t, x, rfl, hb⟩) | (go_at_call 26; refine (errorsNew_any _ _).mono ?_; rintro e w'' ⟨t2, x2, rfl, hb2⟩))
    go_ret2
    exact ⟨t2, x2, rfl, below_of_le hb hb2⟩

theorem valueNil_ok (s : ByteArray) (hs : s.size ≤ 281474976710656) (n : Nat) (h : mp s.data.toList = some n) (w : World) :
    Calls Tryz.prog 72 #[.string s, .map none] w fun e w' => e = .returned (.tuple #[.int .u64 n, .nilIface]) ∧ Below w.heap.size w w' := by
  have hm := fun w : World => run_neq_map_nil (P := Tryz.prog) w 79 _ _ none Tryz.underlying79
  go_enter Tryz.func72, Tryz.ntmps72
  go_wp2_with (go_at_call 73; refine (mustParse_ok s hs n h _).mono ?_; rintro e w' ⟨rfl, hb⟩)
  go_ret2
  exact ⟨rfl, hb⟩

theorem valueNil_bad (s : ByteArray) (hs : s.size ≤ 281474976710656) (h : mp s.data.toList = none) (w : World) (hg : G w) :
    Calls Tryz.prog 72 #[.string s, .map none] w fun e w' => ∃ t x, e = .returned (.tuple #[.int .u64 0, .iface t x]) ∧ Below w.heap.size w w' := by
  have hm := fun w : World => run_neq_map_nil (P := Tryz.prog) w 79 _ _ none Tryz.underlying79
  go_enter Tryz.func72, Tryz.ntmps72
  go_wp2_with (go_at_call 73; refine (mustParse_bad s hs h _ hg).mono ?_; rintro e w' ⟨t, x, rfl, hb⟩)
  go_ret2
  exact ⟨t, x, rfl, hb⟩

end Go.Proofs.YtikgnpachlgakaaGreatDoor.Cron

namespace Go.Proofs.YtikgnpachlgakaaGreatDoor.Cron
open Go Go.RowKit
set_option linter.unusedVariables false

theorem iface_of_trod {H : Type} {enc : TypeId × Value → H} {P : Program} {w : World} {base : Nat} {sp : Nat → Bool} {held : Bool} {fuel : Nat} {t : TypeId} {ms : Array (String × TypeId)} {cs : List Value} {nm : String} {d : DataW H} {p : List MemPlace}
    (hu : P.underlying t = some (.interface ms)) (h : DataW.trod enc P w base sp held fuel t cs = some (.iface nm d, p)) : ∃ u v, cs = [.iface u v] := by
  cases fuel with
  | zero => cases h
  | succ n =>
    unfold DataW.trod at h
    rw [hu] at h
    match cs, h with
    | [], h => simp at h
    | [c], h => cases c <;> first | exact ⟨_, _, rfl⟩ | (simp at h)
    | _ :: _ :: _, h => simp at h

theorem sentinel_reads {P : Program} {w : World} {n nm : String} {d : DataW Unit} {g : Nat} {t : TypeId} {ms : Array (String × TypeId)} (hg : P.globalNamed n = some g) (ht : (P.globals[g]?).map (·.type) = some t) (hu : P.underlying t = some (.interface ms))
    (h : Lib.VarReads P w n (.iface nm d)) : ∃ u v, w.var? P n = some #[.iface u v] := by
  obtain ⟨g', t', cs, fuel, p, hg', ht', hv, hd⟩ := h
  obtain rfl := Option.some.inj (hg.symm.trans hg')
  obtain rfl := Option.some.inj (ht.symm.trans ht')
  obtain ⟨u, v, e⟩ := iface_of_trod hu hd
  refine ⟨u, v, ?_⟩
  rw [hv]
  obtain ⟨l⟩ := cs
  simp only at e
  rw [e]

theorem tSyntax : (Tryz.prog.globals[4]?).map (·.type) = some 48 := by kernel_rfl
theorem tRange : (Tryz.prog.globals[5]?).map (·.type) = some 48 := by kernel_rfl

theorem g_of_met {laid : List (String × DataW Unit)} {w : World} {nm1 nm2 : String} {d1 d2 : DataW Unit} (h : laidMet Tryz.prog laid w) (h1 : ("strconv.ErrSyntax", DataW.iface nm1 d1) ∈ laid) (h2 : ("strconv.ErrRange", DataW.iface nm2 d2) ∈ laid) : G w :=
  ⟨sentinel_reads gSyntax tSyntax Tryz.underlying48 (Lib.laidMet.reads h h1), sentinel_reads gRange tRange Tryz.underlying48 (Lib.laidMet.reads h h2)⟩

end Go.Proofs.YtikgnpachlgakaaGreatDoor.Cron
