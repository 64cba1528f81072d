/- Lemmas and walks on the way to the law, merged by wip/tools/pack.py: RowArr, Laid, EitherWalk. Conditions: none. -/
import Derived.Test.YtmecbmgfacpecaaGreatDoorGrF
import Derived.Test.YtmecbmgfacpecaaGreatDoorLawEitherT
import Derived.Test.YtmecbmgfacpecaaGreatDoorGrG
import Derived.Lib.LaidU8
import Derived.MakeChecks
import Derived.Stop.Joined
import Derived.Test.YtmecbmgfacpecaaGreatDoorRows
import Derived.OpenShut
namespace Go.Proofs.YtmecbmgfacpecaaGreatDoor.RowArgs
open Go Go.Proofs.YtmecbmgfacpecaaGreatDoor Go.ChangeShapes Go.WideShapes Go.ChangeAt Go.RowKit Go.Deep Go.Proofs.YtmecbmgfacpecaaGreatDoor.Cal Go.Proofs.YtmecbmgfacpecaaGreatDoor.Cron
set_option linter.unusedVariables false
theorem cells_five : Tryz.prog.cellsOf 48 = 5 := by kernel_rfl
theorem cells_two : Tryz.prog.cellsOf 51 = 2 := by kernel_rfl
theorem cells_str : Tryz.prog.cellsOf 9 = 1 := by kernel_rfl
theorem cells_bool : Tryz.prog.cellsOf 4 = 1 := by kernel_rfl
theorem okWide_array {P : Program} {w : World} {r : Reach} {base : Nat} {t e : TypeId} {v : Value} {n m : Nat} (ht : P.underlying t = some (.array m e)) (hC : P.cellsOf t = n) (h : Value.okWide P w r base t v) : ∃ cs : Array Value, v = .agg cs ∧ cs.size = n := by
 simp only [Value.okWide, ht] at h
 obtain ⟨cs, h1, h2, _⟩ := h
 exact ⟨cs, h1, h2.trans hC⟩
set_option maxRecDepth 100000 in
theorem open_words {H : Type} {enc : TypeId × Value → H} {w W : World} {spare : Nat → Bool} {held : Bool} {base b2 : Nat} {r : Reach} {v : Value} {d : DataW H} {p : List MemPlace} (hv : Value.okWide Tryz.prog W r b2 48 v)
  (h : DataW.Trod enc Tryz.prog w base spare held 48 v d p) : ∃ l : List ByteArray, l.length = 5 ∧ v = .agg (cs5 l) := by
 obtain ⟨cs, rfl, hsz⟩ := okWide_array Tryz.underlying48 cells_five hv
 obtain ⟨c⟩ := cs
 match c, hsz with
 | [c0, c1, c2, c3, c4], _ =>
  obtain ⟨fuel, hf⟩ := h
  obtain ⟨xs, n, _, hx, _, hlen, hg⟩ := DataW.trod_array Tryz.underlying48 hf
  rw [cells_str] at hg
  have g0 := hg 0 (by omega)
  have g1 := hg 1 (by omega)
  have g2 := hg 2 (by omega)
  have g3 := hg 3 (by omega)
  have g4 := hg 4 (by omega)
  match xs, hlen with
  | [y0, y1, y2, y3, y4], _ =>
   obtain ⟨a0, e0, -⟩ := DataW.trod_string Tryz.underlying9 (g0.trans rfl)
   obtain ⟨a1, e1, -⟩ := DataW.trod_string Tryz.underlying9 (g1.trans rfl)
   obtain ⟨a2, e2, -⟩ := DataW.trod_string Tryz.underlying9 (g2.trans rfl)
   obtain ⟨a3, e3, -⟩ := DataW.trod_string Tryz.underlying9 (g3.trans rfl)
   obtain ⟨a4, e4, -⟩ := DataW.trod_string Tryz.underlying9 (g4.trans rfl)
   refine ⟨[a0, a1, a2, a3, a4], rfl, ?_⟩
   have f0 : c0 = .string a0 := (List.cons.inj (show [c0] = [.string a0] from e0)).1
   have f1 : c1 = .string a1 := (List.cons.inj (show [c1] = [.string a1] from e1)).1
   have f2 : c2 = .string a2 := (List.cons.inj (show [c2] = [.string a2] from e2)).1
   have f3 : c3 = .string a3 := (List.cons.inj (show [c3] = [.string a3] from e3)).1
   have f4 : c4 = .string a4 := (List.cons.inj (show [c4] = [.string a4] from e4)).1
   rw [f0, f1, f2, f3, f4]
   rfl
set_option maxRecDepth 100000 in
theorem open_marks {H : Type} {enc : TypeId × Value → H} {w W : World} {spare : Nat → Bool} {held : Bool} {base b2 : Nat} {r : Reach} {v : Value} {d : DataW H} {p : List MemPlace} (hv : Value.okWide Tryz.prog W r b2 51 v)
  (h : DataW.Trod enc Tryz.prog w base spare held 51 v d p) : ∃ m0 m1 : Bool, v = .agg #[.bool m0, .bool m1] := by
 obtain ⟨cs, rfl, hsz⟩ := okWide_array Tryz.underlying51 cells_two hv
 obtain ⟨c⟩ := cs
 match c, hsz with
 | [c0, c1], _ =>
  obtain ⟨fuel, hf⟩ := h
  obtain ⟨xs, n, _, hx, _, hlen, hg⟩ := DataW.trod_array Tryz.underlying51 hf
  rw [cells_bool] at hg
  have g0 := hg 0 (by omega)
  have g1 := hg 1 (by omega)
  match xs, hlen with
  | [y0, y1], _ =>
   obtain ⟨a0, e0, -⟩ := DataW.trod_bool Tryz.underlying4 (g0.trans rfl)
   obtain ⟨a1, e1, -⟩ := DataW.trod_bool Tryz.underlying4 (g1.trans rfl)
   have f0 : c0 = .bool a0 := (List.cons.inj (show [c0] = [.bool a0] from e0)).1
   have f1 : c1 = .bool a1 := (List.cons.inj (show [c1] = [.bool a1] from e1)).1
   exact ⟨a0, a1, by rw [f0, f1]⟩
end Go.Proofs.YtmecbmgfacpecaaGreatDoor.RowArgs
namespace Go.Proofs.YtmecbmgfacpecaaGreatDoor.Cron
open Go Go.RowKit
set_option linter.unusedVariables false
theorem iface_of_trod {H : Type} {enc : TypeId × Value → H} {P : Program} {w : World} {base : Nat} {sp : Nat → Bool} {held : Bool} {fuel : Nat} {t : TypeId} {ms : Array (String × TypeId)} {cs : List Value} {nm : String} {d : DataW H} {p : List MemPlace}
  (hu : P.underlying t = some (.interface ms)) (h : DataW.trod enc P w base sp held fuel t cs = some (.iface nm d, p)) : ∃ u v, cs = [.iface u v] := by
 cases fuel with
 | zero => cases h
 | succ n =>
  unfold DataW.trod at h
  rw [hu] at h
  match cs, h with
  | [], h => simp at h
  | [c], h => cases c <;> first | exact ⟨_, _, rfl⟩ | (simp at h)
  | _ :: _ :: _, h => simp at h
theorem sentinel_reads {P : Program} {w : World} {n nm : String} {d : DataW Unit} {g : Nat} {t : TypeId} {ms : Array (String × TypeId)} (hg : P.globalNamed n = some g) (ht : (P.globals[g]?).map (·.type) = some t) (hu : P.underlying t = some (.interface ms))
  (h : Lib.VarReads P w n (.iface nm d)) : ∃ u v, w.var? P n = some #[.iface u v] := by
 obtain ⟨g', t', cs, fuel, p, hg', ht', hv, hd⟩ := h
 obtain rfl := Option.some.inj (hg.symm.trans hg')
 obtain rfl := Option.some.inj (ht.symm.trans ht')
 obtain ⟨u, v, e⟩ := iface_of_trod hu hd
 refine ⟨u, v, ?_⟩
 rw [hv]
 obtain ⟨l⟩ := cs
 simp only at e
 rw [e]
theorem tSyntax : (Tryz.prog.globals[7]?).map (·.type) = some 112 := by kernel_rfl
theorem tRange : (Tryz.prog.globals[8]?).map (·.type) = some 112 := by kernel_rfl
theorem g_of_met {laid : List (String × DataW Unit)} {w : World} {nm1 nm2 : String} {d1 d2 : DataW Unit} (h : laidMet Tryz.prog laid w) (h1 : ("strconv.ErrSyntax", DataW.iface nm1 d1) ∈ laid) (h2 : ("strconv.ErrRange", DataW.iface nm2 d2) ∈ laid) : G w :=
 ⟨sentinel_reads gSyntax tSyntax Tryz.underlying112 (Lib.laidMet.reads h h1), sentinel_reads gRange tRange Tryz.underlying112 (Lib.laidMet.reads h h2)⟩
end Go.Proofs.YtmecbmgfacpecaaGreatDoor.Cron
namespace Go.Proofs.YtmecbmgfacpecaaGreatDoor.Cron
open Go Go.RowKit Go.Proofs.YtmecbmgfacpecaaGreatDoor.Cal
set_option linter.unusedVariables false
theorem either_walk (l : List ByteArray) (h5 : l.length = 5) (sec nano : Int) (m0 m1 : Bool) (W : World) (hL : laidMetH Tryz.prog Rows.fnCronTextEitherDayRow.laid W) :
  Calls Tryz.prog 5 #[.agg (cs5 l), .agg #[.int .i64 sec, .int .i64 nano], .agg #[.bool m0, .bool m1]] W fun e w' => e = .returned (.bool true) ∧ Below W.heap.size W w' := by
 rw [MakeChecks.laidMetH_plain _ _ _ (by kernel_rfl)] at hL
 exact lawEither_any l h5 sec nano m0 m1 W (g_of_met hL (by first | exact List.mem_of_getElem? (i := 0) rfl | exact List.mem_of_getElem? (i := 1) rfl | exact List.mem_of_getElem? (i := 2) rfl | exact List.mem_of_getElem? (i := 3) rfl | exact List.mem_of_getElem? (i := 4) rfl | exact List.mem_of_getElem? (i := 5) rfl | exact List.mem_of_getElem? (i := 6) rfl | exact List.mem_of_getElem? (i := 7) rfl | exact List.mem_of_getElem? (i := 8) rfl | exact List.mem_of_getElem? (i := 9) rfl) (by first | exact List.mem_of_getElem? (i := 0) rfl | exact List.mem_of_getElem? (i := 1) rfl | exact List.mem_of_getElem? (i := 2) rfl | exact List.mem_of_getElem? (i := 3) rfl | exact List.mem_of_getElem? (i := 4) rfl | exact List.mem_of_getElem? (i := 5) rfl | exact List.mem_of_getElem? (i := 6) rfl | exact List.mem_of_getElem? (i := 7) rfl | exact List.mem_of_getElem? (i := 8) rfl | exact List.mem_of_getElem? (i := 9) rfl))
end Go.Proofs.YtmecbmgfacpecaaGreatDoor.Cron
