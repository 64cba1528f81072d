/- From what a row lists of package strconv's variables to the words of the walks. -/
import Derived.Test.YtikgnpachlgakaaDoorNumber
import Derived.Lib.LaidU8
import Derived.MakeChecks
import Derived.Stop.Joined
namespace Go.Proofs.YtikgnpachlgakaaDoor.Cron
open Go Go.RowKit
set_option linter.unusedVariables false

theorem iface_of_trod {H : Type} {enc : TypeId × Value → H} {P : Program} {w : World} {base : Nat} {sp : Nat → Bool} {held : Bool} {fuel : Nat} {t : TypeId} {ms : Array (String × TypeId)} {cs : List Value} {nm : String} {d : DataW H} {p : List MemPlace}
    (hu : P.underlying t = some (.interface ms)) (h : DataW.trod enc P w base sp held fuel t cs = some (.iface nm d, p)) : ∃ u v, cs = [.iface u v] := by
  cases fuel with
  | zero => cases h
  | succ n =>
    unfold DataW.trod at h
    rw [hu] at h
    match cs, h with
    | [], h => simp at h
    | [c], h => cases c <;> first | exact ⟨_, _, rfl⟩ | (simp at h)
    | _ :: _ :: _, h => simp at h

theorem sentinel_reads {P : Program} {w : World} {n nm : String} {d : DataW Unit} {g : Nat} {t : TypeId} {ms : Array (String × TypeId)} (hg : P.globalNamed n = some g) (ht : (P.globals[g]?).map (·.type) = some t) (hu : P.underlying t = some (.interface ms))
    (h : Lib.VarReads P w n (.iface nm d)) : ∃ u v, w.var? P n = some #[.iface u v] := by
  obtain ⟨g', t', cs, fuel, p, hg', ht', hv, hd⟩ := h
  obtain rfl := Option.some.inj (hg.symm.trans hg')
  obtain rfl := Option.some.inj (ht.symm.trans ht')
  obtain ⟨u, v, e⟩ := iface_of_trod hu hd
  refine ⟨u, v, ?_⟩
  rw [hv]
  obtain ⟨l⟩ := cs
  simp only at e
  rw [e]

theorem tSyntax : (Tryd.prog.globals[7]?).map (·.type) = some 57 := by kernel_rfl
theorem tRange : (Tryd.prog.globals[8]?).map (·.type) = some 57 := by kernel_rfl

theorem g_of_met {laid : List (String × DataW Unit)} {w : World} {nm1 nm2 : String} {d1 d2 : DataW Unit} (h : laidMet Tryd.prog laid w) (h1 : ("strconv.ErrSyntax", DataW.iface nm1 d1) ∈ laid) (h2 : ("strconv.ErrRange", DataW.iface nm2 d2) ∈ laid) : G w :=
  ⟨sentinel_reads gSyntax tSyntax Tryd.underlying57 (Lib.laidMet.reads h h1), sentinel_reads gRange tRange Tryd.underlying57 (Lib.laidMet.reads h h2)⟩

end Go.Proofs.YtikgnpachlgakaaDoor.Cron
