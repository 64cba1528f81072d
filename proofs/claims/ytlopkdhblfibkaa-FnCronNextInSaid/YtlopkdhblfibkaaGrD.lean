/- Lemmas and walks on the way to the law, merged by wip/tools/pack.py: NextF, ZNextS, ZNextL0, ZNextL1, ZNextL2, ZNextL3. Conditions: none. -/
import Derived.Test.YtlopkdhblfibkaaGrC
namespace Go.Proofs.Ytlopkdhblfibkaa.Cal
open Go Go.RowKit Go.Proofs.YtlopkdhblfibkaaW.PrintWords Go.Proofs.YtlopkdhblfibkaaW.PrintLast
set_option linter.unusedVariables false
set_option linter.unusedSimpArgs false
def Fr (g T k0 k1 : Nat) (ad : Bool) (lim : Int) (a : Act) : Prop :=
 a.defers = [] ∧ a.tmps.size = 172 ∧ a.tmps.getD 0 undef = .pointer (some ⟨g, 0, none⟩) ∧ a.tmps.getD 3 undef = .pointer (some ⟨T, 0, none⟩) ∧ a.tmps.getD 4 undef = .pointer (some ⟨T + 1, 0, none⟩) ∧ a.tmps.getD 5 undef = .pointer (some ⟨k0, 0, none⟩) ∧
  a.tmps.getD 6 undef = .pointer (some ⟨k1, 0, none⟩) ∧ a.tmps.getD 7 undef = .bool ad ∧ a.tmps.getD 8 undef = .int .i64 lim
theorem list_form (l : List Value) : ∀ n, l.length = n → l = (List.range n).map (fun i => l.getD i undef) := by
 intro n hn
 apply List.ext_getElem?
 intro i
 by_cases hi : i < n
 ·simp [hn, hi]
 ·simp [hn, hi]
set_option maxRecDepth 100000 in
theorem Fr.open {g T k0 k1 : Nat} {ad : Bool} {lim : Int} {a : Act} (h : Fr g T k0 k1 ad lim a) : ∃ u : Nat → Value,
  a = { tmps := #[.pointer (some ⟨g, 0, none⟩), u 1, u 2, .pointer (some ⟨T, 0, none⟩), .pointer (some ⟨T + 1, 0, none⟩), .pointer (some ⟨k0, 0, none⟩), .pointer (some ⟨k1, 0, none⟩), .bool ad, .int .i64 lim, u 9, u 10, u 11, u 12, u 13, u 14, u 15, u 16, u 17, u 18, u 19, u 20, u 21, u 22, u 23, u 24, u 25, u 26, u 27, u 28, u 29, u 30, u 31, u 32, u 33, u 34, u 35, u 36, u 37, u 38, u 39, u 40, u 41, u 42, u 43, u 44, u 45, u 46, u 47, u 48, u 49, u 50, u 51, u 52, u 53, u 54, u 55, u 56, u 57, u 58, u 59, u 60, u 61, u 62, u 63, u 64, u 65, u 66, u 67, u 68, u 69, u 70, u 71, u 72, u 73, u 74, u 75, u 76, u 77, u 78, u 79, u 80, u 81, u 82, u 83, u 84, u 85, u 86, u 87, u 88, u 89, u 90, u 91, u 92, u 93, u 94, u 95, u 96, u 97, u 98, u 99, u 100, u 101, u 102, u 103, u 104, u 105, u 106, u 107, u 108, u 109, u 110, u 111, u 112, u 113, u 114, u 115, u 116, u 117, u 118, u 119, u 120, u 121, u 122, u 123, u 124, u 125, u 126, u 127, u 128, u 129, u 130, u 131, u 132, u 133, u 134, u 135, u 136, u 137, u 138, u 139, u 140, u 141, u 142, u 143, u 144, u 145, u 146, u 147, u 148, u 149, u 150, u 151, u 152, u 153, u 154, u 155, u 156, u 157, u 158, u 159, u 160, u 161, u 162, u 163, u 164, u 165, u 166, u 167, u 168, u 169, u 170, u 171], defers := [] } := by
 obtain ⟨hd, hs, h0, h3, h4, h5, h6, h7, h8⟩ := h
 obtain ⟨t, d⟩ := a
 dsimp only at *
 subst hd
 refine ⟨fun i => t.getD i undef, ?_⟩
 have hl := list_form t.toList 172 (by simpa using hs)
 have he : t = ((List.range 172).map (fun i => t.toList.getD i undef)).toArray := by rw [← hl]
 have hg : ∀ i, t.toList.getD i undef = t.getD i undef := fun i => by simp [List.getD, Array.getD_eq_getD_getElem?]
 simp only [hg] at he
 rw [← h0, ← h3, ← h4, ← h5, ← h6, ← h7, ← h8]
 have e2 : ((List.range 172).map (fun i => t.getD i undef)).toArray = #[t.getD 0 undef, t.getD 1 undef, t.getD 2 undef, t.getD 3 undef, t.getD 4 undef, t.getD 5 undef, t.getD 6 undef, t.getD 7 undef, t.getD 8 undef, t.getD 9 undef, t.getD 10 undef, t.getD 11 undef, t.getD 12 undef, t.getD 13 undef, t.getD 14 undef, t.getD 15 undef, t.getD 16 undef, t.getD 17 undef, t.getD 18 undef, t.getD 19 undef, t.getD 20 undef, t.getD 21 undef, t.getD 22 undef, t.getD 23 undef, t.getD 24 undef, t.getD 25 undef, t.getD 26 undef, t.getD 27 undef, t.getD 28 undef, t.getD 29 undef, t.getD 30 undef, t.getD 31 undef, t.getD 32 undef, t.getD 33 undef, t.getD 34 undef, t.getD 35 undef, t.getD 36 undef, t.getD 37 undef, t.getD 38 undef, t.getD 39 undef, t.getD 40 undef, t.getD 41 undef, t.getD 42 undef, t.getD 43 undef, t.getD 44 undef, t.getD 45 undef, t.getD 46 undef, t.getD 47 undef, t.getD 48 undef, t.getD 49 undef, t.getD 50 undef, t.getD 51 undef, t.getD 52 undef, t.getD 53 undef, t.getD 54 undef, t.getD 55 undef, t.getD 56 undef, t.getD 57 undef, t.getD 58 undef, t.getD 59 undef, t.getD 60 undef, t.getD 61 undef, t.getD 62 undef, t.getD 63 undef, t.getD 64 undef, t.getD 65 undef, t.getD 66 undef, t.getD 67 undef, t.getD 68 undef, t.getD 69 undef, t.getD 70 undef, t.getD 71 undef, t.getD 72 undef, t.getD 73 undef, t.getD 74 undef, t.getD 75 undef, t.getD 76 undef, t.getD 77 undef, t.getD 78 undef, t.getD 79 undef, t.getD 80 undef, t.getD 81 undef, t.getD 82 undef, t.getD 83 undef, t.getD 84 undef, t.getD 85 undef, t.getD 86 undef, t.getD 87 undef, t.getD 88 undef, t.getD 89 undef, t.getD 90 undef, t.getD 91 undef, t.getD 92 undef, t.getD 93 undef, t.getD 94 undef, t.getD 95 undef, t.getD 96 undef, t.getD 97 undef, t.getD 98 undef, t.getD 99 undef, t.getD 100 undef, t.getD 101 undef, t.getD 102 undef, t.getD 103 undef, t.getD 104 undef, t.getD 105 undef, t.getD 106 undef, t.getD 107 undef, t.getD 108 undef, t.getD 109 undef, t.getD 110 undef, t.getD 111 undef, t.getD 112 undef, t.getD 113 undef, t.getD 114 undef, t.getD 115 undef, t.getD 116 undef, t.getD 117 undef, t.getD 118 undef, t.getD 119 undef, t.getD 120 undef, t.getD 121 undef, t.getD 122 undef, t.getD 123 undef, t.getD 124 undef, t.getD 125 undef, t.getD 126 undef, t.getD 127 undef, t.getD 128 undef, t.getD 129 undef, t.getD 130 undef, t.getD 131 undef, t.getD 132 undef, t.getD 133 undef, t.getD 134 undef, t.getD 135 undef, t.getD 136 undef, t.getD 137 undef, t.getD 138 undef, t.getD 139 undef, t.getD 140 undef, t.getD 141 undef, t.getD 142 undef, t.getD 143 undef, t.getD 144 undef, t.getD 145 undef, t.getD 146 undef, t.getD 147 undef, t.getD 148 undef, t.getD 149 undef, t.getD 150 undef, t.getD 151 undef, t.getD 152 undef, t.getD 153 undef, t.getD 154 undef, t.getD 155 undef, t.getD 156 undef, t.getD 157 undef, t.getD 158 undef, t.getD 159 undef, t.getD 160 undef, t.getD 161 undef, t.getD 162 undef, t.getD 163 undef, t.getD 164 undef, t.getD 165 undef, t.getD 166 undef, t.getD 167 undef, t.getD 168 undef, t.getD 169 undef, t.getD 170 undef, t.getD 171 undef] := by kernel_rfl
 rw [← e2, ← he]
theorem run_loadAt_row {P : Program} (w : World) (g : Nat) (ty t : TypeId) (cs : Array Value) (fr : Nat × Nat) (d : TypeDesc) (hg : w.heap[g]? = some (.cells cs t fr)) (hu : P.underlying ty = some d)
  (hd : (match d with | .struct _ | .array _ _ => true | _ => false) = true) (hi : (P.info? ty).map (·.size) = some cs.size) : (Instr.loadAt ty (.pointer (some ⟨g, 0, none⟩))).run P w = .ok (.agg cs) w := by
 simp only [Instr.loadAt, Instr.sureAddr, Sem.run_bind, Sem.run_pure, Result.andThen_ok, run_loadVar_row w g t ty cs fr d hg hu hd hi]
theorem exec_load_row {P : Program} (ev : Operand → Value) (oi : Oper) (w : World) (ty : TypeId) (x : Operand) (ho : oi.op = .load ty x) (g : Nat) (hx : ev x = .pointer (some ⟨g, 0, none⟩)) (t : TypeId) (cs : Array Value) (fr : Nat × Nat) (d : TypeDesc) (hg : w.heap[g]? = some (.cells cs t fr))
  (hu : P.underlying ty = some d) (hd : (match d with | .struct _ | .array _ _ => true | _ => false) = true) (hi : (P.info? ty).map (·.size) = some cs.size) : (execOp ev oi).run P w = .ok (.value (.agg cs)) w := by
 unfold execOp
 simp only [ho, hx, Sem.run_bind, Sem.run_pure, Result.andThen_ok, run_loadAt_row w g ty t cs fr d hg hu hd hi]
def only (K : Act → World → Prop) : Exit → Act → World → Prop
 | .normal, a, w => K a w
 | _, _, _ => False
theorem wp_only {P : Program} {c : Code} {K : Act → World → Prop} {Q : Exit → Act → World → Prop} {a : Act} {w : World} (h : c.wp P (only K) a w) : c.wp P (Exit.then K Q) a w :=
 Code.wp_mono (fun e a w h => by cases e <;> first | exact h | exact h.elim) h
end Go.Proofs.Ytlopkdhblfibkaa.Cal
namespace Go.Proofs.Ytlopkdhblfibkaa.Cal
open Go Go.RowKit Go.Proofs.YtlopkdhblfibkaaW.PrintWords Go.Proofs.YtlopkdhblfibkaaW.PrintLast
set_option linter.unusedVariables false
set_option linter.unusedSectionVars false
set_option linter.unusedSimpArgs false
def LocK (Loc : World → Nat → Prop) : Prop := ∀ (w w' : World) (k : Nat), Loc w k → Below w.heap.size w w' → Loc w' k
theorem ClockZ.lk {l : Option Addr} {off : Int → Int} {Inv : World → Prop} {Loc : World → Nat → Prop} (H : ClockZ l off Inv Loc) : LocK Loc := fun _ _ _ h hb => H.locK h hb
structure StZ (l : Option Addr) (Loc0 Loc : World → Nat → Prop) (w : World) (T k0 k1 : Nat) (wr : World) (u : Int) : Prop where
 row : wr.heap[T]? = some (.cells (ucells l u) 59 (0, 0))
 res : wr.heap[T + 1]? = some (.cells zcells 59 (0, 0))
 bel : Below w.heap.size w wr
 new : w.heap.size ≤ T
 loc0 : Loc0 wr k0
 loc1 : Loc wr k1
theorem StZ.below {l : Option Addr} {Loc0 Loc : World → Nat → Prop} (H0 : LocK Loc0) (H1 : LocK Loc) {w : World} {T k0 k1 : Nat} {wr w' : World} {u : Int} (h : StZ l Loc0 Loc w T k0 k1 wr u) (hb : Below wr.heap.size wr w') : StZ l Loc0 Loc w T k0 k1 w' u :=
 ⟨(hb.block _ (Array.getElem?_eq_some_iff.1 h.row).1).trans h.row, (hb.block _ (Array.getElem?_eq_some_iff.1 h.res).1).trans h.res, below_le h.bel hb, h.new, H0 _ _ _ h.loc0 hb, H1 _ _ _ h.loc1 hb⟩
theorem StZ.put {l : Option Addr} {Loc0 Loc : World → Nat → Prop} (hl0 : LocS Loc0) (hls : LocS Loc) {w : World} {T k0 k1 : Nat} {wr : World} {u : Int} (h : StZ l Loc0 Loc w T k0 k1 wr u) (x : Int) : StZ l Loc0 Loc w T k0 k1 (wr.setRow T (ucells l x)) x :=
 ⟨setRow_heap _ _ _ _ _ _ h.row, (setRow_other _ _ _ _ (by omega)).trans h.res, below_setRow h.bel h.new _, h.new,
  hl0 wr _ k0 T _ _ _ h.loc0 h.row (fun b hb => setRow_other _ _ _ _ hb) (by simp), hls wr _ k1 T _ _ _ h.loc1 h.row (fun b hb => setRow_other _ _ _ _ hb) (by simp)⟩
structure ParZ (off : Int → Int) (Inv : World → Prop) (w : World) (g : Nat) (loc : Option Addr) (S : Sets) (f lim : Int) : Prop where
 zn : Zn off
 inv : Inv w
 spec : SpecRow w g S loc
 ok : S.ok
 f0 : -62135596800 ≤ f
 lim0 : yearL (zt off f) ≤ lim
 lim1 : lim ≤ 10098
theorem yok_of {L : Int} (h0 : -62135596800 - 200000 ≤ L) (hy : yearL L ≤ 10100) : YOk L := by
 unfold YOk
 by_cases hL : -62135596800 ≤ L
 ·have := year_one hL
  exact ⟨by omega, by omega, hy⟩
 ·have := date_L L
  have hd : dayL L = L / 86400 := rfl
  have e1 : dayOf 0 12 1 = -719193 := by decide
  have e2 : mdays 0 12 = 31 := by decide
  have e3 : dayOf 0 12 (L / 86400 + 719193 + 1) = dayL L := by unfold dayOf at *; unfold dayL; omega
  have := date_eq (L := L) (y := 0) (m := 12) (d := L / 86400 + 719193 + 1) ⟨by omega, by omega, by omega, by omega⟩ e3
  exact ⟨by omega, by omega, hy⟩
theorem yok_first {L : Int} (h0 : -62135596800 - 200000 ≤ L) (hy : yearL L ≤ 10100) : YOk (mFirst L * 86400) ∧ -62135596800 - 3000000 ≤ mFirst L * 86400 := by
 have hg := mNext_gt L
 have hd := same_month (L := L) (x := mFirst L * 86400) (by omega) (by omega)
 have h1 := yok_of h0 hy
 refine ⟨by unfold YOk at *; rw [hd.1, hd.2]; exact h1, ?_⟩
 obtain ⟨hv, he⟩ := date_L L
 have hm := mdays_bd (yearL L) (monthL L)
 have h2 := hv.d2
 have h3 : mFirst L = L / 86400 - (mdayL L - 1) := by
  have e : dayOf (yearL L) (monthL L) (mdayL L) = L / 86400 := he
  unfold mFirst
  unfold dayOf at *
  omega
 omega
section
variable {off : Int → Int} {Inv : World → Prop} {w : World} {g : Nat} {loc : Option Addr} {S : Sets} {f lim : Int} (P : ParZ off Inv w g loc S f lim)
include P
theorem ParZ.ok2 {u : Int} (h : f - 8000 ≤ u) (hy : yearL (zt off u) ≤ lim + 1) : UOk u ∧ YOk (zt off u) ∧ -62135596800 - 200000 ≤ zt off u := by
 have h0 := P.f0
 have h1 := P.zn.o0 u
 have h2 := P.zn.o1 u
 have h3 := P.lim1
 have h4 := lim_lt (L := zt off u) (y := 10099) (by omega)
 rw [show ystart (10099 + 1) = 2969422 from by decide] at h4
 have hz : -62135596800 - 200000 ≤ zt off u := by unfold zt; omega
 refine ⟨⟨by omega, by unfold zt at h4; omega⟩, yok_of hz (by omega), hz⟩
theorem ParZ.okX {u x : Int} (h : f - 8000 ≤ u) (hy : yearL (zt off u) ≤ lim + 1) (h1 : mFirst (zt off u) * 86400 ≤ zt off x) (h2 : zt off x ≤ zt off u) : UOk x ∧ YOk (zt off x) := by
 obtain ⟨a, b, c⟩ := P.ok2 h hy
 have h3 := P.lim1
 obtain ⟨d, e⟩ := yok_first c (by omega)
 have hs := same_month (L := zt off u) (x := zt off x) h1 (by have := mNext_gt (zt off u); omega)
 have o0 := P.zn.o0 x
 have o1 := P.zn.o1 x
 have p0 := P.zn.o0 u
 have p1 := P.zn.o1 u
 refine ⟨?_, by unfold YOk at *; rw [hs.1, hs.2]; exact b⟩
 obtain ⟨a1, a2⟩ := a
 have h4 := lim_lt (L := zt off u) (y := 10099) (by omega)
 rw [show ystart (10099 + 1) = 2969422 from by decide] at h4
 unfold zt at *
 exact ⟨by omega, by omega⟩
end
def adN : Value → Nat
 | .bool false => 10000
 | _ => 0
def muZ (T : Nat) (bnd : Int) (wr : World) : Nat := (bnd - intOf ((wr.cell? ⟨T, 1, none⟩).getD undef)).toNat
theorem muZ_is {l : Option Addr} {Loc0 Loc : World → Nat → Prop} {w : World} {T k0 k1 : Nat} {wr : World} {u : Int} (h : StZ l Loc0 Loc w T k0 k1 wr u) (bnd : Int) : muZ T bnd wr = (bnd - (u + 62135596800)).toNat := by
 unfold muZ
 rw [cell_of_row _ _ _ _ _ _ h.row]
 rfl
def bndZ (lim : Int) : Int := ystart (lim + 3) * 86400 + 62135596800 + 100000
theorem bndZ_lt {off : Int → Int} (Z : Zn off) {u lim : Int} (h : yearL (zt off u) ≤ lim + 1) : u + 62135596800 < bndZ lim := by
 have := lim_lt h
 have := ystart_le (a := lim + 1 + 1) (b := lim + 3) (by omega)
 have := Z.o0 u
 unfold bndZ
 unfold zt at *
 omega
theorem muZ_less {off : Int → Int} (Z : Zn off) {l : Option Addr} {Loc0 Loc : World → Nat → Prop} {w : World} {T k0 k1 : Nat} {wr w' : World} {u u' lim : Int} (h : StZ l Loc0 Loc w T k0 k1 wr u) (h' : StZ l Loc0 Loc w T k0 k1 w' u') (hy : yearL (zt off u) ≤ lim + 1) (hl : u < u') : muZ T (bndZ lim) w' < muZ T (bndZ lim) wr := by
 rw [muZ_is h, muZ_is h']
 have := bndZ_lt Z hy
 omega
theorem muZ_less2 {off : Int → Int} (Z : Zn off) {l : Option Addr} {Loc0 Loc : World → Nat → Prop} {w : World} {T k0 k1 : Nat} {wr w' : World} {u u' lim : Int} (h : StZ l Loc0 Loc w T k0 k1 wr u) (h' : StZ l Loc0 Loc w T k0 k1 w' u') (hy : yearL (zt off u) ≤ lim + 1) (hl : u ≤ u' + 3600) : muZ T (bndZ lim) w' < muZ T (bndZ lim) wr + 10000 := by
 rw [muZ_is h, muZ_is h']
 have := bndZ_lt Z hy
 omega
theorem ucells_one (l : Option Addr) (u : Int) : (ucells l u).all (·.oneCell') = true := by simp [ucells, Value.oneCell']
end Go.Proofs.Ytlopkdhblfibkaa.Cal
namespace Go.Proofs.Ytlopkdhblfibkaa.Cal
open Go Go.RowKit Go.Proofs.YtlopkdhblfibkaaW.PrintWords Go.Proofs.YtlopkdhblfibkaaW.PrintLast
set_option linter.unusedVariables false
set_option linter.unusedSimpArgs false
set_option maxRecDepth 100000 in
set_option maxHeartbeats 8000000 in
theorem zloop0 {l : Option Addr} {off : Int → Int} {Inv : World → Prop} {Loc0 Loc : World → Nat → Prop} (H : ClockZ l off Inv Loc) (hK0 : LocK Loc0) (hl0 : LocS Loc0) (hls : LocS Loc) {w : World} {g T k0 k1 : Nat} {loc : Option Addr} {S : Sets} {f lim : Int} (P : ParZ off Inv w g loc S f lim) (Q : Exit → Act → World → Prop) (L : Int) (ad : Bool) (a : Act) (wr : World) (ha : Fr g T k0 k1 ad lim a) (hst : StZ l Loc0 Loc w T k0 k1 wr L) (hat : AtZ off S f ad L) (hy : yearL (zt off L) ≤ lim)
  (next : ∀ (a' : Act) (w' : World) (L' : Int) (ad' : Bool), Fr g T k0 k1 ad' lim a' → StZ l Loc0 Loc w T k0 k1 w' L' → AtZ off S f ad' L' → monthB S (zt off L') = true → yearL (zt off L') ≤ lim → L ≤ L' → Q .normal a' w')
  (jump : ∀ (a' : Act) (w' : World) (L' : Int), Fr g T k0 k1 true lim a' → StZ l Loc0 Loc w T k0 k1 w' L' → AtZ off S f true L' → L < L' → yearL (zt off L') ≤ lim + 1 → Q (.goto 0) a' w') :
  (loopK (Try.f69.body.getD .skip) 0).wp Try.prog (Exit.inBlock 0 Q) a wr := by
 obtain ⟨u, rfl⟩ := ha.open
 have HNEXT := Lib.hid next
 have HJUMP := Lib.hid jump
 have HST := Lib.hid hst
 have HAT := Lib.hid hat
 have hfL := hat.ge
 clear next jump hst hat ha
 simp only [loopK, loops, Try.f69, Option.getD_some, List.append_assoc, List.cons_append, List.nil_append, List.getElem?_cons_zero, List.getElem?_cons_succ]
 go_loopw [7] (fun v7 wr => ∃ (ad : Bool) (L' : Int), v7 = .bool ad ∧ Hid (StZ l Loc0 Loc w T k0 k1 wr L') ∧ Hid (AtZ off S f ad L') ∧ yearL (zt off L') ≤ lim ∧ L ≤ L') (fun _ wr => muZ T (bndZ lim) wr)
 case atStart => exact ⟨ad, L, rfl, HST, HAT, hy, Int.le_refl _⟩
 case round =>
  obtain ⟨ad, L1, rfl, HS, HA, hy1, hle⟩ := hrel
  clear HST HAT hy
  have hge : f - 3600 ≤ L1 := by have := HA.out.ge; omega
  obtain ⟨hok, hyk, -⟩ := P.ok2 (u := L1) (by omega) (by omega)
  obtain ⟨wo, hwo⟩ : ∃ wo, wo = wr := ⟨_, rfl⟩
  subst hwo
  have hspec : SpecRow wo g S loc := P.spec.below HS.out.bel
  have HI := Lib.hid (H.abs.keeps P.inv HS.out.bel)
  have HC : Hid (∀ (w' : World), Inv w' → Calls Try.prog 72 #[.agg (ucells l L1)] w' fun e' w2 => e' = .returned (.int .i64 (monthL (zt off L1))) ∧ Below w'.heap.size w' w2) := Lib.hid (fun w' hI' => zMonth H L1 w' hok hI')
  have hm12 : 1 ≤ monthL (zt off L1) ∧ monthL (zt off L1) ≤ 12 := ⟨(date_L (zt off L1)).1.m1, (date_L (zt off L1)).1.m2⟩
  have hst := HS.out
  go_upto_region 12 with fail
  refine wp_only ?_
  refine start_ (n := 10) (S := fun w' => w'.heap[T]? = some (.cells (ucells l L1) 59 (0, 0)) ∧ SpecRow w' g S loc ∧ Below wo.heap.size wo w') (ds := []) #[false, false, false, false, false, false, false, false, false, false] (by kernel_rfl) rfl rfl ⟨hst.row, hspec, (Below.refl _ _).drew⟩ (fun hHeld => ?_)
  refine pure_ (i := 4) (N := some 48) (v := ?_) (a' := ?_) #[false, false, false, false, true, false, false, false, false, false] rfl rfl (by kernel_rfl) (fun _ _ _ h => h) (Or.inl ⟨by rfl, ?_⟩) ?_ ?_
  rotate_left
  ·intro w'
   go_simp
   with_reducible rfl
  rotate_left
  ·simp only [Act.put, List.setIfInBounds_toArray, List.set_cons_zero, List.set_cons_succ, i64_w, i32_w]
   rfl
  refine pure_ (i := 5) (N := some 49) (v := ?_) (a' := ?_) #[false, false, false, false, true, true, false, false, false, false] rfl rfl (by kernel_rfl) (fun _ _ _ h => h) (Or.inl ⟨by rfl, ?_⟩) ?_ ?_
  rotate_left
  ·intro w'
   go_simp
   with_reducible rfl
  rotate_left
  ·simp only [Act.put, List.setIfInBounds_toArray, List.set_cons_zero, List.set_cons_succ, i64_w, i32_w]
   rfl
  refine pure_ (i := 6) (N := some 50) (v := ?_) (a' := ?_) #[false, false, false, false, true, true, true, false, false, false] rfl rfl (by kernel_rfl) (fun _ _ _ h => h) (Or.inl ⟨by rfl, ?_⟩) ?_ ?_
  rotate_left
  ·intro w'
   go_simp
   with_reducible rfl
  rotate_left
  ·simp only [Act.put, List.setIfInBounds_toArray, List.set_cons_zero, List.set_cons_succ, i64_w, i32_w]
   rfl
  refine take_ (i := 0) (N := some 44) (v := ?_) (a' := ?_) #[true, false, false, false, true, true, true, false, false, false] rfl rfl (by kernel_rfl) (fun _ _ _ h => h) (Or.inl ⟨by rfl, ?_⟩) hHeld ?_ ?_
  rotate_left
  ·rintro w' ⟨s0, s1, s2⟩
   refine exec_load_row _ _ w' 59 (.tmp 3) ?_ T ?_ _ _ _ _ s0 Try.underlying59 rfl timeSize
   ·rfl
   ·rfl
  rotate_left
  ·simp only [Act.put, List.setIfInBounds_toArray, List.set_cons_zero, List.set_cons_succ, i64_w, i32_w]
   rfl
  refine take_ (i := 7) (N := some 51) (v := ?_) (a' := ?_) #[true, false, false, false, true, true, true, true, false, false] rfl rfl (by kernel_rfl) (fun _ _ _ h => h) (Or.inl ⟨by rfl, ?_⟩) hHeld ?_ ?_
  rotate_left
  ·rintro w' ⟨s0, s1, s2⟩
   have c3 : w'.cell? ⟨g, 4, none⟩ = some (.int .u64 (S.month : Int)) := cell_of_row _ _ _ _ _ _ s1
   go_simp
   with_reducible rfl
  rotate_left
  ·simp only [Act.put, List.setIfInBounds_toArray, List.set_cons_zero, List.set_cons_succ, i64_w, i32_w]
   rfl
  refine one_ (i := 1) (N := some 45) #[true, true, false, false, true, true, true, true, false, false] rfl rfl (by kernel_rfl) (by decide) (fun K hK => ?_)
  refine goes_ Try.func72 (by kernel_rfl) rfl #[.agg (ucells l L1)] (by rfl) rfl rfl (by simp only [List.map_toArray, List.map_cons, List.map_nil]; rfl) ?_
  with_reducible refine (HC.out _ (H.abs.keeps HI.out hHeld.2.2)).mono ?_
  rintro e3 w3 ⟨rfl, hb1⟩
  refine ⟨_, rfl, ?_⟩
  refine hK.out _ _ ⟨(hb1.block _ (Array.getElem?_eq_some_iff.1 hHeld.1).1).trans hHeld.1, hHeld.2.1.below hb1, below_le hHeld.2.2 hb1⟩ (fun hHeld => ?_)
  clear hK K
  refine norm_ (a' := ?_) ?_ ?_
  rotate_left
  ·show Act.put _ (some 45) _ = _
   simp only [Act.put, List.setIfInBounds_toArray, List.set_cons_zero, List.set_cons_succ, i64_w, i32_w]
   rfl
  refine pure_ (i := 2) (N := some 46) (v := ?_) (a' := ?_) #[true, true, true, false, true, true, true, true, false, false] rfl rfl (by kernel_rfl) (fun _ _ _ h => h) (Or.inl ⟨by rfl, ?_⟩) ?_ ?_
  rotate_left
  ·intro w'
   go_simp
   with_reducible rfl
  rotate_left
  ·simp only [Act.put, List.setIfInBounds_toArray, List.set_cons_zero, List.set_cons_succ, i64_w, i32_w]
   rfl
  refine pure_ (i := 3) (N := some 47) (v := ?_) (a' := ?_) #[true, true, true, true, true, true, true, true, false, false] rfl rfl (by kernel_rfl) (fun _ _ _ h => h) (Or.inl ⟨by rfl, ?_⟩) ?_ ?_
  rotate_left
  ·intro w'
   go_simp
   with_reducible rfl
  rotate_left
  ·simp only [Act.put, List.setIfInBounds_toArray, List.set_cons_zero, List.set_cons_succ, i64_w, i32_w]
   rfl
  refine pure_ (i := 8) (N := some 52) (v := ?_) (a' := ?_) #[true, true, true, true, true, true, true, true, true, false] rfl rfl (by kernel_rfl) (fun _ _ _ h => h) (Or.inl ⟨by rfl, ?_⟩) ?_ ?_
  rotate_left
  ·intro w'
   go_simp
   with_reducible rfl
  rotate_left
  ·simp only [Act.put, List.setIfInBounds_toArray, List.set_cons_zero, List.set_cons_succ, i64_w, i32_w]
   rfl
  refine pure_ (i := 9) (N := some 53) (v := ?_) (a' := ?_) #[true, true, true, true, true, true, true, true, true, true] rfl rfl (by kernel_rfl) (fun _ _ _ h => h) (Or.inl ⟨by rfl, ?_⟩) ?_ ?_
  rotate_left
  ·intro w'
   go_simp
   with_reducible rfl
  rotate_left
  ·simp only [Act.put, List.setIfInBounds_toArray, List.set_cons_zero, List.set_cons_succ, i64_w, i32_w]
   rfl
  refine done_ (by kernel_rfl) ?_
  dsimp only [only]
  obtain ⟨-, hspec3, hb3⟩ := hHeld
  have HS3 := Lib.hid (HS.out.below hK0 H.lk hb3)
  have HI3 := Lib.hid (H.abs.keeps P.inv HS3.out.bel)
  rw [bit_eq P.ok.2.2.2.2.1 (by omega) (by omega)]
  have hmB : inB S.month (monthL (zt off L1)) = monthB S (zt off L1) := rfl
  rw [hmB]
  generalize IntKind.u64.wrap (2 ^ min (IntKind.u64.wrap (monthL (zt off L1))).toNat 64) = junk
  clear hst hspec hspec3 hmB hb1 hb3
  cases hm : monthB S (zt off L1) with
  | true =>
   go_wp2_with fail
   exact HNEXT.out _ _ L1 ad ⟨rfl, rfl, rfl, rfl, rfl, rfl, rfl, rfl, rfl⟩ HS3.out HA.out hm hy1 hle
  | false =>
   cases ad with
   | true =>
    obtain ⟨X, hXe⟩ : ∃ X, X = L1 := ⟨_, rfl⟩
    have hX0 : (UOk X ∧ YOk (zt off X)) ∧ zt off X = mFirst (zt off X) * 86400 ∧ mNext (zt off X) = mNext (zt off L1) := by
     rw [hXe]
     exact ⟨⟨hok, hyk⟩, (HA.out.mo rfl).resolve_left (by rw [hm]; decide), rfl⟩
    have HSX := Lib.hid HS3.out
    rw [← hXe] at HSX
    clear hXe
    obtain ⟨hokX, hXa, hXn⟩ := hX0
    have HAM : Hid (∀ (w' : World), Inv w' → Calls Try.prog 74 #[.agg (ucells l X), .int .i64 0, .int .i64 1, .int .i64 0] w' fun e' w2 => e' = .returned (.agg (ucells l (dt off (mNext (zt off X))))) ∧ Below w'.heap.size w' w2) := Lib.hid (fun w' hI' => zAddMonth H X w' hokX.1 hI' hokX.2 hXa)
    have hz := mid_next P.zn (X := mNext (zt off L1)) (u := L1) ((mNext_date _).1) ((mNext_gt _).1)
    have hat2 := atZ_month P.zn HA.out hm
    have hxn : dt off (mNext (zt off X)) = dt off (mNext (zt off L1)) := by rw [hXn]
    obtain ⟨V, hVe⟩ : ∃ V, V = dt off (mNext (zt off L1)) := ⟨_, rfl⟩
    rw [← hVe] at hz hat2 hxn
    have HXN := Lib.hid hxn
    have hgt := hz.1
    have HZ := Lib.hid hz.2.1
    clear hz hxn hVe
    have HAT2 := Lib.hid hat2
    clear hat2
    have hyr : yearL (zt off V) ≤ lim + 1 := by rw [HZ.out]; rw [(mNext_date (zt off L1)).2.2.2]; split <;> omega
    obtain ⟨hok2, -⟩ := P.ok2 (u := V) (by omega) hyr
    have HM2 : Hid (∀ (w' : World), Inv w' → Calls Try.prog 72 #[.agg (ucells l V)] w' fun e' w2 => e' = .returned (.int .i64 (monthL (zt off V))) ∧ Below w'.heap.size w' w2) := Lib.hid (fun w' hI' => zMonth H V w' hok2 hI')
    go_wp2_with (refine wpList_load_row rfl 59 _ rfl T rfl _ _ _ _ HSX.out.row Try.underlying59 rfl timeSize ?_)
    refine (HAM.out _ (H.abs.keeps P.inv HSX.out.bel)).mono ?_
    rintro e w6 ⟨rfl, hb6⟩
    have hst6 := HSX.out.below hK0 H.lk hb6
    rw [HXN.out]
    go_wp2_with (first | (refine wpList_store_row rfl 59 _ _ rfl T (ucells l (V)) rfl rfl 59 _ hst6.row timeSize rfl (ucells_one _ _) ?_; generalize hX : World.setRow _ _ _ = wz; have HSZ := Lib.hid (show StZ l Loc0 Loc w T k0 k1 wz (V) by rw [← hX]; exact hst6.put hl0 hls _); clear hX) | (refine wpList_load_row rfl 59 _ rfl T rfl _ _ _ _ HSZ.out.row Try.underlying59 rfl timeSize ?_))
    refine (HM2.out _ (H.abs.keeps P.inv HSZ.out.bel)).mono ?_
    rintro e w7 ⟨rfl, hb7⟩
    have HS7 := Lib.hid (HSZ.out.below hK0 H.lk hb7)
    by_cases h1 : monthL (zt off V) = 1
    ·have hdd : (monthL (zt off V) == 1) = true := by simp [h1]
     go_wp2_with fail
     refine wp_goto ?_
     refine HJUMP.out _ _ V ?_ HS7.out HAT2.out (by omega) hyr
     exact ⟨rfl, rfl, rfl, rfl, rfl, rfl, rfl, rfl, rfl⟩
    ·have hdd : (monthL (zt off V) == 1) = false := by simp [h1]
     have hne : ¬ monthL (zt off L1) = 12 := fun h => h1 (by rw [HZ.out, (mNext_date (zt off L1)).2.2.1, if_pos h])
     go_wp2_with fail
     exact ⟨⟨true, V, rfl, HS7, HAT2, by rw [HZ.out, (mNext_date (zt off L1)).2.2.2, if_neg hne]; exact hy1, by omega⟩, muZ_less P.zn HS.out HS7.out (by omega) (by omega)⟩
   | false =>
    have HY : Hid (∀ (w' : World), Inv w' → Calls Try.prog 71 #[.agg (ucells l L1)] w' fun e' w2 => e' = .returned (.int .i64 (yearL (zt off L1))) ∧ Below w'.heap.size w' w2) := Lib.hid (fun w' hI' => zYear H L1 w' hok hI')
    have HDT : Hid (∀ (w' : World), Loc w' k1 → Calls Try.prog 73 #[.int .i64 (yearL (zt off L1)), .int .i64 (monthL (zt off L1)), .int .i64 1, .int .i64 0, .int .i64 0, .int .i64 0, .int .i64 0, .pointer (some ⟨k1, 0, none⟩)] w' fun e' w2 => e' = .returned (.agg (ucells l (dt off (mFirst (zt off L1) * 86400)))) ∧ Below w'.heap.size w' w2) := Lib.hid (fun w' hk => zDateMonth H (zt off L1) k1 w' hyk hk)
    have hst3 := HS3.out
    go_upto_region 15 with fail
    refine wp_only ?_
    refine start_ (n := 7) (S := fun w' => w'.heap[T]? = some (.cells (ucells l L1) 59 (0, 0)) ∧ Below w3.heap.size w3 w') (ds := [6]) #[false, false, false, false, false, false, false] (by kernel_rfl) rfl rfl ⟨hst3.row, (Below.refl _ _).drew⟩ (fun hHeld => ?_)
    refine pure_ (i := 4) (N := some 60) (v := ?_) (a' := ?_) #[false, false, false, false, true, false, false] rfl rfl (by kernel_rfl) (fun _ _ _ h => h) (Or.inl ⟨by rfl, ?_⟩) ?_ ?_
    rotate_left
    ·intro w'
     go_simp
     with_reducible rfl
    rotate_left
    ·simp only [Act.put, List.setIfInBounds_toArray, List.set_cons_zero, List.set_cons_succ, i64_w, i32_w]
     rfl
    refine take_ (i := 0) (N := some 56) (v := ?_) (a' := ?_) #[true, false, false, false, true, false, false] rfl rfl (by kernel_rfl) (fun _ _ _ h => h) (Or.inl ⟨by rfl, ?_⟩) hHeld ?_ ?_
    rotate_left
    ·rintro w' ⟨s0, s1⟩
     refine exec_load_row _ _ w' 59 (.tmp 3) ?_ T ?_ _ _ _ _ s0 Try.underlying59 rfl timeSize
     ·rfl
     ·rfl
    rotate_left
    ·simp only [Act.put, List.setIfInBounds_toArray, List.set_cons_zero, List.set_cons_succ, i64_w, i32_w]
     rfl
    refine take_ (i := 2) (N := some 58) (v := ?_) (a' := ?_) #[true, false, true, false, true, false, false] rfl rfl (by kernel_rfl) (fun _ _ _ h => h) (Or.inl ⟨by rfl, ?_⟩) hHeld ?_ ?_
    rotate_left
    ·rintro w' ⟨s0, s1⟩
     refine exec_load_row _ _ w' 59 (.tmp 3) ?_ T ?_ _ _ _ _ s0 Try.underlying59 rfl timeSize
     ·rfl
     ·rfl
    rotate_left
    ·simp only [Act.put, List.setIfInBounds_toArray, List.set_cons_zero, List.set_cons_succ, i64_w, i32_w]
     rfl
    refine one_ (i := 1) (N := some 57) #[true, true, true, false, true, false, false] rfl rfl (by kernel_rfl) (by decide) (fun K hK => ?_)
    refine goes_ Try.func71 (by kernel_rfl) rfl #[.agg (ucells l L1)] (by rfl) rfl rfl (by simp only [List.map_toArray, List.map_cons, List.map_nil]; rfl) ?_
    with_reducible refine (HY.out _ (H.abs.keeps HI3.out hHeld.2)).mono ?_
    rintro e1 x1 ⟨rfl, hb1⟩
    refine ⟨_, rfl, ?_⟩
    refine hK.out _ _ ⟨(hb1.block _ (Array.getElem?_eq_some_iff.1 hHeld.1).1).trans hHeld.1, below_le hHeld.2 hb1⟩ (fun hHeld => ?_)
    clear hK K
    refine norm_ (a' := ?_) ?_ ?_
    rotate_left
    ·show Act.put _ (some 57) _ = _
     simp only [Act.put, List.setIfInBounds_toArray, List.set_cons_zero, List.set_cons_succ, i64_w, i32_w]
     rfl
    refine one_ (i := 3) (N := some 59) #[true, true, true, true, true, false, false] rfl rfl (by kernel_rfl) (by decide) (fun K hK => ?_)
    refine goes_ Try.func72 (by kernel_rfl) rfl #[.agg (ucells l L1)] (by rfl) rfl rfl (by simp only [List.map_toArray, List.map_cons, List.map_nil]; rfl) ?_
    with_reducible refine (HC.out _ (H.abs.keeps HI3.out hHeld.2)).mono ?_
    rintro e3 x3 ⟨rfl, hb3⟩
    refine ⟨_, rfl, ?_⟩
    refine hK.out _ _ ⟨(hb3.block _ (Array.getElem?_eq_some_iff.1 hHeld.1).1).trans hHeld.1, below_le hHeld.2 hb3⟩ (fun hHeld => ?_)
    clear hK K
    refine norm_ (a' := ?_) ?_ ?_
    rotate_left
    ·show Act.put _ (some 59) _ = _
     simp only [Act.put, List.setIfInBounds_toArray, List.set_cons_zero, List.set_cons_succ, i64_w, i32_w]
     rfl
    refine one_ (i := 5) (N := some 61) #[true, true, true, true, true, true, false] rfl rfl (by kernel_rfl) (by decide) (fun K hK => ?_)
    refine goes_ Try.func73 (by kernel_rfl) rfl #[.int .i64 (yearL (zt off L1)), .int .i64 (monthL (zt off L1)), .int .i64 1, .int .i64 0, .int .i64 0, .int .i64 0, .int .i64 0, .pointer (some ⟨k1, 0, none⟩)] (by rfl) rfl rfl (by simp only [List.map_toArray, List.map_cons, List.map_nil]; rfl) ?_
    with_reducible refine (HDT.out _ (H.locK hst3.loc1 hHeld.2)).mono ?_
    rintro e5 x5 ⟨rfl, hb5⟩
    refine ⟨_, rfl, ?_⟩
    refine hK.out _ _ ⟨(hb5.block _ (Array.getElem?_eq_some_iff.1 hHeld.1).1).trans hHeld.1, below_le hHeld.2 hb5⟩ (fun hHeld => ?_)
    clear hK K
    refine norm_ (a' := ?_) ?_ ?_
    rotate_left
    ·show Act.put _ (some 61) _ = _
     simp only [Act.put, List.setIfInBounds_toArray, List.set_cons_zero, List.set_cons_succ, i64_w, i32_w]
     rfl
    refine last_ (i := 6) (N := none) #[true, true, true, true, true, true, true] rfl rfl (by kernel_rfl) (by decide) (fun K hK => ?_)
    rw [if_pos (by rfl)]
    refine wp_store_row 59 _ _ rfl T (ucells l (dt off (mFirst (zt off L1) * 86400))) rfl rfl 59 _ hHeld.1 timeSize rfl (ucells_one _ _) ?_
    refine hK.out _ _ ?_
    clear hK K
    refine done_ (by kernel_rfl) ?_
    dsimp only [only]
    have hst5 := hst3.below hK0 H.lk hHeld.2
    generalize hX : World.setRow _ T _ = wx
    have hstx : StZ l Loc0 Loc w T k0 k1 wx (dt off (mFirst (zt off L1) * 86400)) := by
     rw [← hX]
     exact hst5.put hl0 hls (dt off (mFirst (zt off L1) * 86400))
    have HSX0 := Lib.hid hstx
    clear hstx hX hst3 hst5 hHeld HS3
    obtain ⟨X, hXe⟩ : ∃ X, X = dt off (mFirst (zt off L1) * 86400) := ⟨_, rfl⟩
    have hX0 : (UOk X ∧ YOk (zt off X)) ∧ zt off X = mFirst (zt off X) * 86400 ∧ mNext (zt off X) = mNext (zt off L1) := by
     have hz := (mid P.zn (X := mFirst (zt off L1) * 86400) (by omega)).1
     rw [← hXe] at hz
     have hg := mNext_gt (zt off L1)
     have hlo : mFirst (zt off L1) * 86400 ≤ zt off X := by rw [hz]; omega
     have hhi : zt off X ≤ zt off L1 := by rw [hz]; omega
     refine ⟨P.okX (u := L1) (by omega) (by omega) hlo hhi, ?_, ?_⟩
     ·have hsm := same_month (L := zt off L1) (x := zt off X) hlo (by omega)
      rw [hz]; rw [hz] at hsm; unfold mFirst at *; rw [hsm.1, hsm.2]
     ·have hsm := same_month (L := zt off L1) (x := zt off X) hlo (by omega)
      unfold mNext mFirst at *; rw [hsm.1, hsm.2]
    have HSX := Lib.hid HSX0.out
    clear HSX0
    rw [← hXe] at HSX ⊢
    clear hXe
    obtain ⟨hokX, hXa, hXn⟩ := hX0
    have HAM : Hid (∀ (w' : World), Inv w' → Calls Try.prog 74 #[.agg (ucells l X), .int .i64 0, .int .i64 1, .int .i64 0] w' fun e' w2 => e' = .returned (.agg (ucells l (dt off (mNext (zt off X))))) ∧ Below w'.heap.size w' w2) := Lib.hid (fun w' hI' => zAddMonth H X w' hokX.1 hI' hokX.2 hXa)
    have hz := mid_next P.zn (X := mNext (zt off L1)) (u := L1) ((mNext_date _).1) ((mNext_gt _).1)
    have hat2 := atZ_month P.zn HA.out hm
    have hxn : dt off (mNext (zt off X)) = dt off (mNext (zt off L1)) := by rw [hXn]
    obtain ⟨V, hVe⟩ : ∃ V, V = dt off (mNext (zt off L1)) := ⟨_, rfl⟩
    rw [← hVe] at hz hat2 hxn
    have HXN := Lib.hid hxn
    have hgt := hz.1
    have HZ := Lib.hid hz.2.1
    clear hz hxn hVe
    have HAT2 := Lib.hid hat2
    clear hat2
    have hyr : yearL (zt off V) ≤ lim + 1 := by rw [HZ.out]; rw [(mNext_date (zt off L1)).2.2.2]; split <;> omega
    obtain ⟨hok2, -⟩ := P.ok2 (u := V) (by omega) hyr
    have HM2 : Hid (∀ (w' : World), Inv w' → Calls Try.prog 72 #[.agg (ucells l V)] w' fun e' w2 => e' = .returned (.int .i64 (monthL (zt off V))) ∧ Below w'.heap.size w' w2) := Lib.hid (fun w' hI' => zMonth H V w' hok2 hI')
    go_wp2_with (refine wpList_load_row rfl 59 _ rfl T rfl _ _ _ _ HSX.out.row Try.underlying59 rfl timeSize ?_)
    refine (HAM.out _ (H.abs.keeps P.inv HSX.out.bel)).mono ?_
    rintro e w6 ⟨rfl, hb6⟩
    have hst6 := HSX.out.below hK0 H.lk hb6
    rw [HXN.out]
    go_wp2_with (first | (refine wpList_store_row rfl 59 _ _ rfl T (ucells l (V)) rfl rfl 59 _ hst6.row timeSize rfl (ucells_one _ _) ?_; generalize hX : World.setRow _ _ _ = wz; have HSZ := Lib.hid (show StZ l Loc0 Loc w T k0 k1 wz (V) by rw [← hX]; exact hst6.put hl0 hls _); clear hX) | (refine wpList_load_row rfl 59 _ rfl T rfl _ _ _ _ HSZ.out.row Try.underlying59 rfl timeSize ?_))
    refine (HM2.out _ (H.abs.keeps P.inv HSZ.out.bel)).mono ?_
    rintro e w7 ⟨rfl, hb7⟩
    have HS7 := Lib.hid (HSZ.out.below hK0 H.lk hb7)
    by_cases h1 : monthL (zt off V) = 1
    ·have hdd : (monthL (zt off V) == 1) = true := by simp [h1]
     go_wp2_with fail
     refine wp_goto ?_
     refine HJUMP.out _ _ V ?_ HS7.out HAT2.out (by omega) hyr
     exact ⟨rfl, rfl, rfl, rfl, rfl, rfl, rfl, rfl, rfl⟩
    ·have hdd : (monthL (zt off V) == 1) = false := by simp [h1]
     have hne : ¬ monthL (zt off L1) = 12 := fun h => h1 (by rw [HZ.out, (mNext_date (zt off L1)).2.2.1, if_pos h])
     go_wp2_with fail
     exact ⟨⟨true, V, rfl, HS7, HAT2, by rw [HZ.out, (mNext_date (zt off L1)).2.2.2, if_neg hne]; exact hy1, by omega⟩, muZ_less P.zn HS.out HS7.out (by omega) (by omega)⟩
end Go.Proofs.Ytlopkdhblfibkaa.Cal
namespace Go.Proofs.Ytlopkdhblfibkaa.Cal
open Go Go.RowKit Go.Proofs.YtlopkdhblfibkaaW.PrintWords Go.Proofs.YtlopkdhblfibkaaW.PrintLast
set_option linter.unusedVariables false
set_option linter.unusedSimpArgs false
set_option maxRecDepth 100000 in
set_option maxHeartbeats 8000000 in
theorem zloop1 {l : Option Addr} {off : Int → Int} {Inv : World → Prop} {Loc0 Loc : World → Nat → Prop} (H : ClockZ l off Inv Loc) (hK0 : LocK Loc0) (hl0 : LocS Loc0) (hls : LocS Loc) {w : World} {g T k0 k1 : Nat} {loc : Option Addr} {S : Sets} {f lim : Int} (P : ParZ off Inv w g loc S f lim) (Q : Exit → Act → World → Prop) (L : Int) (ad : Bool) (a : Act) (wr : World) (ha : Fr g T k0 k1 ad lim a) (hst : StZ l Loc0 Loc w T k0 k1 wr L) (hat : AtZ off S f ad L) (hy : yearL (zt off L) ≤ lim) (hm : monthB S (zt off L) = true)
  (next : ∀ (a' : Act) (w' : World) (L' : Int) (ad' : Bool), Fr g T k0 k1 ad' lim a' → StZ l Loc0 Loc w T k0 k1 w' L' → AtZ off S f ad' L' → monthB S (zt off L') = true ∧ dayB S (zt off L') = true → yearL (zt off L') ≤ lim → L ≤ L' → Q .normal a' w')
  (jump : ∀ (a' : Act) (w' : World) (L' : Int), Fr g T k0 k1 true lim a' → StZ l Loc0 Loc w T k0 k1 w' L' → AtZ off S f true L' → L < L' → yearL (zt off L') ≤ lim + 1 → Q (.goto 0) a' w') :
  (loopK (Try.f69.body.getD .skip) 1).wp Try.prog (Exit.inBlock 2 Q) a wr := by
 obtain ⟨u, rfl⟩ := ha.open
 have HNEXT := Lib.hid next
 have HJUMP := Lib.hid jump
 have HST := Lib.hid hst
 have HAT := Lib.hid hat
 have hfL := hat.ge
 clear next jump hst hat ha
 simp only [loopK, loops, Try.f69, Option.getD_some, List.append_assoc, List.cons_append, List.nil_append, List.getElem?_cons_zero, List.getElem?_cons_succ]
 go_loopw [7] (fun v7 wr => ∃ (ad : Bool) (L' : Int), v7 = .bool ad ∧ Hid (StZ l Loc0 Loc w T k0 k1 wr L') ∧ Hid (AtZ off S f ad L') ∧ monthB S (zt off L') = true ∧ yearL (zt off L') ≤ lim ∧ L ≤ L') (fun _ wr => muZ T (bndZ lim) wr)
 case atStart => exact ⟨ad, L, rfl, HST, HAT, hm, hy, Int.le_refl _⟩
 case round =>
  clear hm
  obtain ⟨ad, L1, rfl, HS, HA, hm, hy1, hle⟩ := hrel
  clear HST HAT hy
  have hge : f - 3600 ≤ L1 := by have := HA.out.ge; omega
  obtain ⟨hok, hyk, -⟩ := P.ok2 (u := L1) (by omega) (by omega)
  obtain ⟨wo, hwo⟩ : ∃ wo, wo = wr := ⟨_, rfl⟩
  subst hwo
  have hspec : SpecRow wo g S loc := P.spec.below HS.out.bel
  have HI := Lib.hid (H.abs.keeps P.inv HS.out.bel)
  have HC : Hid (∀ (w' : World), Inv w' → SpecRow w' g S loc → Calls Try.prog 75 #[.pointer (some ⟨g, 0, none⟩), .agg (ucells l L1)] w' fun e' w2 => e' = .returned (.bool (dayB S (zt off L1))) ∧ Below w'.heap.size w' w2) := Lib.hid (fun w' hI' hg => zMatch H S P.ok g loc L1 w' hok hI' hg)
  have HSP := Lib.hid hspec
  clear hspec
  go_wp2_with (refine wpList_load_row rfl 59 _ rfl T rfl _ _ _ _ HS.out.row Try.underlying59 rfl timeSize ?_)
  refine (HC.out _ HI.out HSP.out).mono ?_
  rintro e w3 ⟨rfl, hb3⟩
  have HS3 := Lib.hid (HS.out.below hK0 H.lk hb3)
  have HI3 := Lib.hid (H.abs.keeps P.inv HS3.out.bel)
  clear HC hb3
  cases hd : dayB S (zt off L1) with
  | true =>
   go_wp2_with fail
   exact HNEXT.out _ _ L1 ad ⟨rfl, rfl, rfl, rfl, rfl, rfl, rfl, rfl, rfl⟩ HS3.out HA.out ⟨hm, hd⟩ hy1 hle
  | false =>
   cases ad with
   | true =>
    obtain ⟨X, hXe⟩ : ∃ X, X = L1 := ⟨_, rfl⟩
    have hX0 : (UOk X ∧ YOk (zt off X)) ∧ zt off X % 86400 = 0 ∧ dNext (zt off X) = dNext (zt off L1) := by
     rw [hXe]
     exact ⟨⟨hok, hyk⟩, (HA.out.da rfl).resolve_left (by rw [hd]; decide), rfl⟩
    have HSX := Lib.hid HS3.out
    rw [← hXe] at HSX
    clear hXe
    obtain ⟨hokX, hXa, hXn⟩ := hX0
    have HAM : Hid (∀ (w' : World), Inv w' → Calls Try.prog 74 #[.agg (ucells l X), .int .i64 0, .int .i64 0, .int .i64 1] w' fun e' w2 => e' = .returned (.agg (ucells l (dt off (dNext (zt off X))))) ∧ Below w'.heap.size w' w2) := Lib.hid (fun w' hI' => zAddDay H X w' hokX.1 hI' hokX.2 hXa)
    have hz := mid_next P.zn (X := dNext (zt off L1)) (u := L1) (by unfold dNext; omega) (by unfold dNext; omega)
    have hat2 := atZ_day P.zn HA.out hm hd
    have hxn : dt off (dNext (zt off X)) = dt off (dNext (zt off L1)) := by rw [hXn]
    obtain ⟨V, hVe⟩ : ∃ V, V = dt off (dNext (zt off L1)) := ⟨_, rfl⟩
    rw [← hVe] at hz hat2 hxn
    have HXN := Lib.hid hxn
    have hgt := hz.1
    have HZ := Lib.hid hz.2.1
    clear hz hxn hVe
    rw [← HZ.out] at hat2
    have HAT2 := Lib.hid hat2
    clear hat2
    have hyr : yearL (zt off V) ≤ lim + 1 := by rw [HZ.out]; rcases dNext_date (zt off L1) with h | h; (rw [h.2, (mNext_date (zt off L1)).2.2.2]; split <;> omega); (rw [h.2.2]; omega)
    obtain ⟨hok2, -⟩ := P.ok2 (u := V) (by omega) hyr
    have HM2 : Hid (∀ (w' : World), Inv w' → Calls Try.prog 64 #[.agg (ucells l V)] w' fun e' w2 => e' = .returned (.int .i64 (mdayL (zt off V))) ∧ Below w'.heap.size w' w2) := Lib.hid (fun w' hI' => zDay H V w' hok2 hI')
    have HH2 : Hid (∀ (w' : World), Inv w' → Calls Try.prog 76 #[.agg (ucells l V)] w' fun e' w2 => e' = .returned (.int .i64 0) ∧ Below w'.heap.size w' w2) := Lib.hid (fun w' hI' => by
     have := zHour H V w' hok2 hI'
     rw [HZ.out, show hourL (dNext (zt off L1)) = 0 by unfold hourL dNext; omega] at this
     exact this)
    go_wp2_with (refine wpList_load_row rfl 59 _ rfl T rfl _ _ _ _ HSX.out.row Try.underlying59 rfl timeSize ?_)
    refine (HAM.out _ (H.abs.keeps P.inv HSX.out.bel)).mono ?_
    rintro e w6 ⟨rfl, hb6⟩
    have hst6 := HSX.out.below hK0 H.lk hb6
    rw [HXN.out]
    go_wp2_with (first | (refine wpList_store_row rfl 59 _ _ rfl T (ucells l (V)) rfl rfl 59 _ hst6.row timeSize rfl (ucells_one _ _) ?_; generalize hX : World.setRow _ _ _ = wz; have HSZ := Lib.hid (show StZ l Loc0 Loc w T k0 k1 wz (V) by rw [← hX]; exact hst6.put hl0 hls _); clear hX) | (refine wpList_load_row rfl 59 _ rfl T rfl _ _ _ _ HSZ.out.row Try.underlying59 rfl timeSize ?_))
    refine (HH2.out _ (H.abs.keeps P.inv HSZ.out.bel)).mono ?_
    rintro e w8 ⟨rfl, hb8⟩
    have HSY := Lib.hid (HSZ.out.below hK0 H.lk hb8)
    clear hb8
    go_wp2_with (refine wpList_load_row rfl 59 _ rfl T rfl _ _ _ _ HSY.out.row Try.underlying59 rfl timeSize ?_)
    refine (HM2.out _ (H.abs.keeps P.inv HSY.out.bel)).mono ?_
    rintro e w7 ⟨rfl, hb7⟩
    have HS7 := Lib.hid (HSY.out.below hK0 H.lk hb7)
    by_cases h1 : mdayL (zt off V) = 1
    ·have hdd : (mdayL (zt off V) == 1) = true := by simp [h1]
     go_wp2_with fail
     refine wp_goto ?_
     refine HJUMP.out _ _ V ?_ HS7.out HAT2.out.1 (by omega) hyr
     exact ⟨rfl, rfl, rfl, rfl, rfl, rfl, rfl, rfl, rfl⟩
    ·have hdd : (mdayL (zt off V) == 1) = false := by simp [h1]
     go_wp2_with fail
     exact ⟨⟨true, V, rfl, HS7, Lib.hid HAT2.out.1, (HAT2.out.2.resolve_left h1).1, by rw [(HAT2.out.2.resolve_left h1).2]; exact hy1, by omega⟩, muZ_less P.zn HS.out HS7.out (by omega) (by omega)⟩
   | false =>
    have HY : Hid (∀ (w' : World), Inv w' → Calls Try.prog 71 #[.agg (ucells l L1)] w' fun e' w2 => e' = .returned (.int .i64 (yearL (zt off L1))) ∧ Below w'.heap.size w' w2) := Lib.hid (fun w' hI' => zYear H L1 w' hok hI')
    have HMo : Hid (∀ (w' : World), Inv w' → Calls Try.prog 72 #[.agg (ucells l L1)] w' fun e' w2 => e' = .returned (.int .i64 (monthL (zt off L1))) ∧ Below w'.heap.size w' w2) := Lib.hid (fun w' hI' => zMonth H L1 w' hok hI')
    have HDa : Hid (∀ (w' : World), Inv w' → Calls Try.prog 64 #[.agg (ucells l L1)] w' fun e' w2 => e' = .returned (.int .i64 (mdayL (zt off L1))) ∧ Below w'.heap.size w' w2) := Lib.hid (fun w' hI' => zDay H L1 w' hok hI')
    have HDT : Hid (∀ (w' : World), Loc w' k1 → Calls Try.prog 73 #[.int .i64 (yearL (zt off L1)), .int .i64 (monthL (zt off L1)), .int .i64 (mdayL (zt off L1)), .int .i64 0, .int .i64 0, .int .i64 0, .int .i64 0, .pointer (some ⟨k1, 0, none⟩)] w' fun e' w2 => e' = .returned (.agg (ucells l (dt off (zt off L1 / 86400 * 86400)))) ∧ Below w'.heap.size w' w2) := Lib.hid (fun w' hk => zDateDay H (zt off L1) k1 w' hyk hk)
    have hst3 := HS3.out
    go_upto_region 21 with fail
    refine wp_only ?_
    refine start_ (n := 9) (S := fun w' => w'.heap[T]? = some (.cells (ucells l L1) 59 (0, 0)) ∧ Below w3.heap.size w3 w') (ds := [8]) #[false, false, false, false, false, false, false, false, false] (by kernel_rfl) rfl rfl ⟨hst3.row, (Below.refl _ _).drew⟩ (fun hHeld => ?_)
    refine pure_ (i := 6) (N := some 79) (v := ?_) (a' := ?_) #[false, false, false, false, false, false, true, false, false] rfl rfl (by kernel_rfl) (fun _ _ _ h => h) (Or.inl ⟨by rfl, ?_⟩) ?_ ?_
    rotate_left
    ·intro w'
     go_simp
     with_reducible rfl
    rotate_left
    ·simp only [Act.put, List.setIfInBounds_toArray, List.set_cons_zero, List.set_cons_succ, i64_w, i32_w]
     rfl
    refine take_ (i := 0) (N := some 73) (v := ?_) (a' := ?_) #[true, false, false, false, false, false, true, false, false] rfl rfl (by kernel_rfl) (fun _ _ _ h => h) (Or.inl ⟨by rfl, ?_⟩) hHeld ?_ ?_
    rotate_left
    ·rintro w' ⟨s0, s1⟩
     refine exec_load_row _ _ w' 59 (.tmp 3) ?_ T ?_ _ _ _ _ s0 Try.underlying59 rfl timeSize
     ·rfl
     ·rfl
    rotate_left
    ·simp only [Act.put, List.setIfInBounds_toArray, List.set_cons_zero, List.set_cons_succ, i64_w, i32_w]
     rfl
    refine take_ (i := 2) (N := some 75) (v := ?_) (a' := ?_) #[true, false, true, false, false, false, true, false, false] rfl rfl (by kernel_rfl) (fun _ _ _ h => h) (Or.inl ⟨by rfl, ?_⟩) hHeld ?_ ?_
    rotate_left
    ·rintro w' ⟨s0, s1⟩
     refine exec_load_row _ _ w' 59 (.tmp 3) ?_ T ?_ _ _ _ _ s0 Try.underlying59 rfl timeSize
     ·rfl
     ·rfl
    rotate_left
    ·simp only [Act.put, List.setIfInBounds_toArray, List.set_cons_zero, List.set_cons_succ, i64_w, i32_w]
     rfl
    refine take_ (i := 4) (N := some 77) (v := ?_) (a' := ?_) #[true, false, true, false, true, false, true, false, false] rfl rfl (by kernel_rfl) (fun _ _ _ h => h) (Or.inl ⟨by rfl, ?_⟩) hHeld ?_ ?_
    rotate_left
    ·rintro w' ⟨s0, s1⟩
     refine exec_load_row _ _ w' 59 (.tmp 3) ?_ T ?_ _ _ _ _ s0 Try.underlying59 rfl timeSize
     ·rfl
     ·rfl
    rotate_left
    ·simp only [Act.put, List.setIfInBounds_toArray, List.set_cons_zero, List.set_cons_succ, i64_w, i32_w]
     rfl
    refine one_ (i := 1) (N := some 74) #[true, true, true, false, true, false, true, false, false] rfl rfl (by kernel_rfl) (by decide) (fun K hK => ?_)
    refine goes_ Try.func71 (by kernel_rfl) rfl #[.agg (ucells l L1)] (by rfl) rfl rfl (by simp only [List.map_toArray, List.map_cons, List.map_nil]; rfl) ?_
    with_reducible refine (HY.out _ (H.abs.keeps HI3.out hHeld.2)).mono ?_
    rintro e1 x1 ⟨rfl, hb1⟩
    refine ⟨_, rfl, ?_⟩
    refine hK.out _ _ ⟨(hb1.block _ (Array.getElem?_eq_some_iff.1 hHeld.1).1).trans hHeld.1, below_le hHeld.2 hb1⟩ (fun hHeld => ?_)
    clear hK K
    refine norm_ (a' := ?_) ?_ ?_
    rotate_left
    ·show Act.put _ (some 74) _ = _
     simp only [Act.put, List.setIfInBounds_toArray, List.set_cons_zero, List.set_cons_succ, i64_w, i32_w]
     rfl
    refine one_ (i := 3) (N := some 76) #[true, true, true, true, true, false, true, false, false] rfl rfl (by kernel_rfl) (by decide) (fun K hK => ?_)
    refine goes_ Try.func72 (by kernel_rfl) rfl #[.agg (ucells l L1)] (by rfl) rfl rfl (by simp only [List.map_toArray, List.map_cons, List.map_nil]; rfl) ?_
    with_reducible refine (HMo.out _ (H.abs.keeps HI3.out hHeld.2)).mono ?_
    rintro e3 x3 ⟨rfl, hb3⟩
    refine ⟨_, rfl, ?_⟩
    refine hK.out _ _ ⟨(hb3.block _ (Array.getElem?_eq_some_iff.1 hHeld.1).1).trans hHeld.1, below_le hHeld.2 hb3⟩ (fun hHeld => ?_)
    clear hK K
    refine norm_ (a' := ?_) ?_ ?_
    rotate_left
    ·show Act.put _ (some 76) _ = _
     simp only [Act.put, List.setIfInBounds_toArray, List.set_cons_zero, List.set_cons_succ, i64_w, i32_w]
     rfl
    refine one_ (i := 5) (N := some 78) #[true, true, true, true, true, true, true, false, false] rfl rfl (by kernel_rfl) (by decide) (fun K hK => ?_)
    refine goes_ Try.func64 (by kernel_rfl) rfl #[.agg (ucells l L1)] (by rfl) rfl rfl (by simp only [List.map_toArray, List.map_cons, List.map_nil]; rfl) ?_
    with_reducible refine (HDa.out _ (H.abs.keeps HI3.out hHeld.2)).mono ?_
    rintro e5 x5 ⟨rfl, hb5⟩
    refine ⟨_, rfl, ?_⟩
    refine hK.out _ _ ⟨(hb5.block _ (Array.getElem?_eq_some_iff.1 hHeld.1).1).trans hHeld.1, below_le hHeld.2 hb5⟩ (fun hHeld => ?_)
    clear hK K
    refine norm_ (a' := ?_) ?_ ?_
    rotate_left
    ·show Act.put _ (some 78) _ = _
     simp only [Act.put, List.setIfInBounds_toArray, List.set_cons_zero, List.set_cons_succ, i64_w, i32_w]
     rfl
    refine one_ (i := 7) (N := some 80) #[true, true, true, true, true, true, true, true, false] rfl rfl (by kernel_rfl) (by decide) (fun K hK => ?_)
    refine goes_ Try.func73 (by kernel_rfl) rfl #[.int .i64 (yearL (zt off L1)), .int .i64 (monthL (zt off L1)), .int .i64 (mdayL (zt off L1)), .int .i64 0, .int .i64 0, .int .i64 0, .int .i64 0, .pointer (some ⟨k1, 0, none⟩)] (by rfl) rfl rfl (by simp only [List.map_toArray, List.map_cons, List.map_nil]; rfl) ?_
    with_reducible refine (HDT.out _ (H.locK hst3.loc1 hHeld.2)).mono ?_
    rintro e7 x7 ⟨rfl, hb7⟩
    refine ⟨_, rfl, ?_⟩
    refine hK.out _ _ ⟨(hb7.block _ (Array.getElem?_eq_some_iff.1 hHeld.1).1).trans hHeld.1, below_le hHeld.2 hb7⟩ (fun hHeld => ?_)
    clear hK K
    refine norm_ (a' := ?_) ?_ ?_
    rotate_left
    ·show Act.put _ (some 80) _ = _
     simp only [Act.put, List.setIfInBounds_toArray, List.set_cons_zero, List.set_cons_succ, i64_w, i32_w]
     rfl
    refine last_ (i := 8) (N := none) #[true, true, true, true, true, true, true, true, true] rfl rfl (by kernel_rfl) (by decide) (fun K hK => ?_)
    rw [if_pos (by rfl)]
    refine wp_store_row 59 _ _ rfl T (ucells l (dt off (zt off L1 / 86400 * 86400))) rfl rfl 59 _ hHeld.1 timeSize rfl (ucells_one _ _) ?_
    refine hK.out _ _ ?_
    clear hK K
    refine done_ (by kernel_rfl) ?_
    dsimp only [only]
    have hst5 := hst3.below hK0 H.lk hHeld.2
    generalize hX : World.setRow _ T _ = wx
    have hstx : StZ l Loc0 Loc w T k0 k1 wx (dt off (zt off L1 / 86400 * 86400)) := by
     rw [← hX]
     exact hst5.put hl0 hls (dt off (zt off L1 / 86400 * 86400))
    have HSX0 := Lib.hid hstx
    clear hstx hX hst3 hst5 hHeld HS3
    obtain ⟨X, hXe⟩ : ∃ X, X = dt off (zt off L1 / 86400 * 86400) := ⟨_, rfl⟩
    have hX0 : (UOk X ∧ YOk (zt off X)) ∧ zt off X % 86400 = 0 ∧ dNext (zt off X) = dNext (zt off L1) := by
     have hz := (mid P.zn (X := zt off L1 / 86400 * 86400) (by omega)).1
     rw [← hXe] at hz
     have hg := mNext_gt (zt off L1)
     have hlo : mFirst (zt off L1) * 86400 ≤ zt off X := by rw [hz]; omega
     have hhi : zt off X ≤ zt off L1 := by rw [hz]; omega
     refine ⟨P.okX (u := L1) (by omega) (by omega) hlo hhi, ?_, ?_⟩
     ·rw [hz]; omega
     ·rw [hz]; unfold dNext; omega
    have HSX := Lib.hid HSX0.out
    clear HSX0
    rw [← hXe] at HSX ⊢
    clear hXe
    obtain ⟨hokX, hXa, hXn⟩ := hX0
    have HAM : Hid (∀ (w' : World), Inv w' → Calls Try.prog 74 #[.agg (ucells l X), .int .i64 0, .int .i64 0, .int .i64 1] w' fun e' w2 => e' = .returned (.agg (ucells l (dt off (dNext (zt off X))))) ∧ Below w'.heap.size w' w2) := Lib.hid (fun w' hI' => zAddDay H X w' hokX.1 hI' hokX.2 hXa)
    have hz := mid_next P.zn (X := dNext (zt off L1)) (u := L1) (by unfold dNext; omega) (by unfold dNext; omega)
    have hat2 := atZ_day P.zn HA.out hm hd
    have hxn : dt off (dNext (zt off X)) = dt off (dNext (zt off L1)) := by rw [hXn]
    obtain ⟨V, hVe⟩ : ∃ V, V = dt off (dNext (zt off L1)) := ⟨_, rfl⟩
    rw [← hVe] at hz hat2 hxn
    have HXN := Lib.hid hxn
    have hgt := hz.1
    have HZ := Lib.hid hz.2.1
    clear hz hxn hVe
    rw [← HZ.out] at hat2
    have HAT2 := Lib.hid hat2
    clear hat2
    have hyr : yearL (zt off V) ≤ lim + 1 := by rw [HZ.out]; rcases dNext_date (zt off L1) with h | h; (rw [h.2, (mNext_date (zt off L1)).2.2.2]; split <;> omega); (rw [h.2.2]; omega)
    obtain ⟨hok2, -⟩ := P.ok2 (u := V) (by omega) hyr
    have HM2 : Hid (∀ (w' : World), Inv w' → Calls Try.prog 64 #[.agg (ucells l V)] w' fun e' w2 => e' = .returned (.int .i64 (mdayL (zt off V))) ∧ Below w'.heap.size w' w2) := Lib.hid (fun w' hI' => zDay H V w' hok2 hI')
    have HH2 : Hid (∀ (w' : World), Inv w' → Calls Try.prog 76 #[.agg (ucells l V)] w' fun e' w2 => e' = .returned (.int .i64 0) ∧ Below w'.heap.size w' w2) := Lib.hid (fun w' hI' => by
     have := zHour H V w' hok2 hI'
     rw [HZ.out, show hourL (dNext (zt off L1)) = 0 by unfold hourL dNext; omega] at this
     exact this)
    go_wp2_with (refine wpList_load_row rfl 59 _ rfl T rfl _ _ _ _ HSX.out.row Try.underlying59 rfl timeSize ?_)
    refine (HAM.out _ (H.abs.keeps P.inv HSX.out.bel)).mono ?_
    rintro e w6 ⟨rfl, hb6⟩
    have hst6 := HSX.out.below hK0 H.lk hb6
    rw [HXN.out]
    go_wp2_with (first | (refine wpList_store_row rfl 59 _ _ rfl T (ucells l (V)) rfl rfl 59 _ hst6.row timeSize rfl (ucells_one _ _) ?_; generalize hX : World.setRow _ _ _ = wz; have HSZ := Lib.hid (show StZ l Loc0 Loc w T k0 k1 wz (V) by rw [← hX]; exact hst6.put hl0 hls _); clear hX) | (refine wpList_load_row rfl 59 _ rfl T rfl _ _ _ _ HSZ.out.row Try.underlying59 rfl timeSize ?_))
    refine (HH2.out _ (H.abs.keeps P.inv HSZ.out.bel)).mono ?_
    rintro e w8 ⟨rfl, hb8⟩
    have HSY := Lib.hid (HSZ.out.below hK0 H.lk hb8)
    clear hb8
    go_wp2_with (refine wpList_load_row rfl 59 _ rfl T rfl _ _ _ _ HSY.out.row Try.underlying59 rfl timeSize ?_)
    refine (HM2.out _ (H.abs.keeps P.inv HSY.out.bel)).mono ?_
    rintro e w7 ⟨rfl, hb7⟩
    have HS7 := Lib.hid (HSY.out.below hK0 H.lk hb7)
    by_cases h1 : mdayL (zt off V) = 1
    ·have hdd : (mdayL (zt off V) == 1) = true := by simp [h1]
     go_wp2_with fail
     refine wp_goto ?_
     refine HJUMP.out _ _ V ?_ HS7.out HAT2.out.1 (by omega) hyr
     exact ⟨rfl, rfl, rfl, rfl, rfl, rfl, rfl, rfl, rfl⟩
    ·have hdd : (mdayL (zt off V) == 1) = false := by simp [h1]
     go_wp2_with fail
     exact ⟨⟨true, V, rfl, HS7, Lib.hid HAT2.out.1, (HAT2.out.2.resolve_left h1).1, by rw [(HAT2.out.2.resolve_left h1).2]; exact hy1, by omega⟩, muZ_less P.zn HS.out HS7.out (by omega) (by omega)⟩
end Go.Proofs.Ytlopkdhblfibkaa.Cal
namespace Go.Proofs.Ytlopkdhblfibkaa.Cal
open Go Go.RowKit Go.Proofs.YtlopkdhblfibkaaW.PrintWords Go.Proofs.YtlopkdhblfibkaaW.PrintLast
set_option linter.unusedVariables false
set_option linter.unusedSimpArgs false
set_option maxRecDepth 100000 in
set_option maxHeartbeats 8000000 in
theorem zloop2 {l : Option Addr} {off : Int → Int} {Inv : World → Prop} {Loc0 Loc : World → Nat → Prop} (H : ClockZ l off Inv Loc) (hK0 : LocK Loc0) (hl0 : LocS Loc0) (hls : LocS Loc) {w : World} {g T k0 k1 : Nat} {loc : Option Addr} {S : Sets} {f lim : Int} (P : ParZ off Inv w g loc S f lim) (Q : Exit → Act → World → Prop) (L : Int) (ad : Bool) (a : Act) (wr : World) (ha : Fr g T k0 k1 ad lim a) (hst : StZ l Loc0 Loc w T k0 k1 wr L) (hat : AtZ off S f ad L) (hy : yearL (zt off L) ≤ lim) (hm : monthB S (zt off L) = true) (hd : dayB S (zt off L) = true)
  (next : ∀ (a' : Act) (w' : World) (L' : Int) (ad' : Bool), Fr g T k0 k1 ad' lim a' → StZ l Loc0 Loc w T k0 k1 w' L' → AtZ off S f ad' L' → monthB S (zt off L') = true ∧ dayB S (zt off L') = true ∧ hourB S (zt off L') = true → yearL (zt off L') ≤ lim → L ≤ L' → Q .normal a' w')
  (jump : ∀ (a' : Act) (w' : World) (L' : Int), Fr g T k0 k1 true lim a' → StZ l Loc0 Loc w T k0 k1 w' L' → AtZ off S f true L' → L < L' → yearL (zt off L') ≤ lim + 1 → Q (.goto 0) a' w') :
  (loopK (Try.f69.body.getD .skip) 2).wp Try.prog (Exit.inBlock 4 Q) a wr := by
 obtain ⟨u, rfl⟩ := ha.open
 have HNEXT := Lib.hid next
 have HJUMP := Lib.hid jump
 have HST := Lib.hid hst
 have HAT := Lib.hid (show AtH off S f ad L from .inl hat)
 have hfL := hat.ge
 clear next jump hst hat ha
 simp only [loopK, loops, Try.f69, Option.getD_some, List.append_assoc, List.cons_append, List.nil_append, List.getElem?_cons_zero, List.getElem?_cons_succ]
 go_loopw [7] (fun v7 wr => ∃ (ad : Bool) (L' : Int), v7 = .bool ad ∧ Hid (StZ l Loc0 Loc w T k0 k1 wr L') ∧ Hid (AtH off S f ad L') ∧ monthB S (zt off L') = true ∧ dayB S (zt off L') = true ∧ yearL (zt off L') ≤ lim ∧ (L ≤ L' ∨ L = f)) (fun v7 wr => muZ T (bndZ lim) wr + adN v7)
 case atStart => exact ⟨ad, L, rfl, HST, HAT, hm, hd, hy, .inl (Int.le_refl _)⟩
 case round =>
  clear hm hd
  obtain ⟨ad, L1, rfl, HS, HA, hm, hd, hy1, hle⟩ := hrel
  clear HST HAT hy
  have hge : f - 3600 ≤ L1 := by rcases HA.out with h | h; (have := h.ge; omega); omega
  obtain ⟨hok, hyk, -⟩ := P.ok2 (u := L1) (by omega) (by omega)
  obtain ⟨wo, hwo⟩ : ∃ wo, wo = wr := ⟨_, rfl⟩
  subst hwo
  have hspec : SpecRow wo g S loc := P.spec.below HS.out.bel
  have HI := Lib.hid (H.abs.keeps P.inv HS.out.bel)
  have HC : Hid (∀ (w' : World), Inv w' → Calls Try.prog 76 #[.agg (ucells l L1)] w' fun e' w2 => e' = .returned (.int .i64 (hourL (zt off L1))) ∧ Below w'.heap.size w' w2) := Lib.hid (fun w' hI' => zHour H L1 w' hok hI')
  have hm12 : 0 ≤ hourL (zt off L1) ∧ hourL (zt off L1) < 24 := by unfold hourL; omega
  have hst := HS.out
  go_upto_region 28 with fail
  refine wp_only ?_
  refine start_ (n := 10) (S := fun w' => w'.heap[T]? = some (.cells (ucells l L1) 59 (0, 0)) ∧ SpecRow w' g S loc ∧ Below wo.heap.size wo w') (ds := []) #[false, false, false, false, false, false, false, false, false, false] (by kernel_rfl) rfl rfl ⟨hst.row, hspec, (Below.refl _ _).drew⟩ (fun hHeld => ?_)
  refine pure_ (i := 4) (N := some 108) (v := ?_) (a' := ?_) #[false, false, false, false, true, false, false, false, false, false] rfl rfl (by kernel_rfl) (fun _ _ _ h => h) (Or.inl ⟨by rfl, ?_⟩) ?_ ?_
  rotate_left
  ·intro w'
   go_simp
   with_reducible rfl
  rotate_left
  ·simp only [Act.put, List.setIfInBounds_toArray, List.set_cons_zero, List.set_cons_succ, i64_w, i32_w]
   rfl
  refine pure_ (i := 5) (N := some 109) (v := ?_) (a' := ?_) #[false, false, false, false, true, true, false, false, false, false] rfl rfl (by kernel_rfl) (fun _ _ _ h => h) (Or.inl ⟨by rfl, ?_⟩) ?_ ?_
  rotate_left
  ·intro w'
   go_simp
   with_reducible rfl
  rotate_left
  ·simp only [Act.put, List.setIfInBounds_toArray, List.set_cons_zero, List.set_cons_succ, i64_w, i32_w]
   rfl
  refine pure_ (i := 6) (N := some 110) (v := ?_) (a' := ?_) #[false, false, false, false, true, true, true, false, false, false] rfl rfl (by kernel_rfl) (fun _ _ _ h => h) (Or.inl ⟨by rfl, ?_⟩) ?_ ?_
  rotate_left
  ·intro w'
   go_simp
   with_reducible rfl
  rotate_left
  ·simp only [Act.put, List.setIfInBounds_toArray, List.set_cons_zero, List.set_cons_succ, i64_w, i32_w]
   rfl
  refine take_ (i := 0) (N := some 104) (v := ?_) (a' := ?_) #[true, false, false, false, true, true, true, false, false, false] rfl rfl (by kernel_rfl) (fun _ _ _ h => h) (Or.inl ⟨by rfl, ?_⟩) hHeld ?_ ?_
  rotate_left
  ·rintro w' ⟨s0, s1, s2⟩
   refine exec_load_row _ _ w' 59 (.tmp 3) ?_ T ?_ _ _ _ _ s0 Try.underlying59 rfl timeSize
   ·rfl
   ·rfl
  rotate_left
  ·simp only [Act.put, List.setIfInBounds_toArray, List.set_cons_zero, List.set_cons_succ, i64_w, i32_w]
   rfl
  refine take_ (i := 7) (N := some 111) (v := ?_) (a' := ?_) #[true, false, false, false, true, true, true, true, false, false] rfl rfl (by kernel_rfl) (fun _ _ _ h => h) (Or.inl ⟨by rfl, ?_⟩) hHeld ?_ ?_
  rotate_left
  ·rintro w' ⟨s0, s1, s2⟩
   have c3 : w'.cell? ⟨g, 2, none⟩ = some (.int .u64 (S.hour : Int)) := cell_of_row _ _ _ _ _ _ s1
   go_simp
   with_reducible rfl
  rotate_left
  ·simp only [Act.put, List.setIfInBounds_toArray, List.set_cons_zero, List.set_cons_succ, i64_w, i32_w]
   rfl
  refine one_ (i := 1) (N := some 105) #[true, true, false, false, true, true, true, true, false, false] rfl rfl (by kernel_rfl) (by decide) (fun K hK => ?_)
  refine goes_ Try.func76 (by kernel_rfl) rfl #[.agg (ucells l L1)] (by rfl) rfl rfl (by simp only [List.map_toArray, List.map_cons, List.map_nil]; rfl) ?_
  with_reducible refine (HC.out _ (H.abs.keeps HI.out hHeld.2.2)).mono ?_
  rintro e3 w3 ⟨rfl, hb1⟩
  refine ⟨_, rfl, ?_⟩
  refine hK.out _ _ ⟨(hb1.block _ (Array.getElem?_eq_some_iff.1 hHeld.1).1).trans hHeld.1, hHeld.2.1.below hb1, below_le hHeld.2.2 hb1⟩ (fun hHeld => ?_)
  clear hK K
  refine norm_ (a' := ?_) ?_ ?_
  rotate_left
  ·show Act.put _ (some 105) _ = _
   simp only [Act.put, List.setIfInBounds_toArray, List.set_cons_zero, List.set_cons_succ, i64_w, i32_w]
   rfl
  refine pure_ (i := 2) (N := some 106) (v := ?_) (a' := ?_) #[true, true, true, false, true, true, true, true, false, false] rfl rfl (by kernel_rfl) (fun _ _ _ h => h) (Or.inl ⟨by rfl, ?_⟩) ?_ ?_
  rotate_left
  ·intro w'
   go_simp
   with_reducible rfl
  rotate_left
  ·simp only [Act.put, List.setIfInBounds_toArray, List.set_cons_zero, List.set_cons_succ, i64_w, i32_w]
   rfl
  refine pure_ (i := 3) (N := some 107) (v := ?_) (a' := ?_) #[true, true, true, true, true, true, true, true, false, false] rfl rfl (by kernel_rfl) (fun _ _ _ h => h) (Or.inl ⟨by rfl, ?_⟩) ?_ ?_
  rotate_left
  ·intro w'
   go_simp
   with_reducible rfl
  rotate_left
  ·simp only [Act.put, List.setIfInBounds_toArray, List.set_cons_zero, List.set_cons_succ, i64_w, i32_w]
   rfl
  refine pure_ (i := 8) (N := some 112) (v := ?_) (a' := ?_) #[true, true, true, true, true, true, true, true, true, false] rfl rfl (by kernel_rfl) (fun _ _ _ h => h) (Or.inl ⟨by rfl, ?_⟩) ?_ ?_
  rotate_left
  ·intro w'
   go_simp
   with_reducible rfl
  rotate_left
  ·simp only [Act.put, List.setIfInBounds_toArray, List.set_cons_zero, List.set_cons_succ, i64_w, i32_w]
   rfl
  refine pure_ (i := 9) (N := some 113) (v := ?_) (a' := ?_) #[true, true, true, true, true, true, true, true, true, true] rfl rfl (by kernel_rfl) (fun _ _ _ h => h) (Or.inl ⟨by rfl, ?_⟩) ?_ ?_
  rotate_left
  ·intro w'
   go_simp
   with_reducible rfl
  rotate_left
  ·simp only [Act.put, List.setIfInBounds_toArray, List.set_cons_zero, List.set_cons_succ, i64_w, i32_w]
   rfl
  refine done_ (by kernel_rfl) ?_
  dsimp only [only]
  obtain ⟨-, hspec3, hb3⟩ := hHeld
  have HS3 := Lib.hid (HS.out.below hK0 H.lk hb3)
  have HI3 := Lib.hid (H.abs.keeps P.inv HS3.out.bel)
  rw [bit_eq P.ok.2.2.1 (by omega) (by omega)]
  have hmB : inB S.hour (hourL (zt off L1)) = hourB S (zt off L1) := rfl
  rw [hmB]
  generalize IntKind.u64.wrap (2 ^ min (IntKind.u64.wrap (hourL (zt off L1))).toNat 64) = junk
  clear hst hspec hspec3 hmB hb1 hb3
  cases hh : hourB S (zt off L1) with
  | true =>
   go_wp2_with fail
   exact HNEXT.out _ _ L1 ad ⟨rfl, rfl, rfl, rfl, rfl, rfl, rfl, rfl, rfl⟩ HS3.out (atH_good HA.out hh) ⟨hm, hd, hh⟩ hy1 (by rcases hle with h | h; exact h; (have := (atH_good HA.out hh).ge; omega))
  | false =>
   cases ad with
   | true =>
    obtain ⟨X, hXe⟩ : ∃ X, X = L1 := ⟨_, rfl⟩
    have hX0 : ∃ V, UOk X ∧ X + 3600 = V ∧ L1 < V ∧ Hid (AtH off S f true V ∧ (hourL (zt off V) = 0 → AtZ off S f true V ∧ f < V) ∧ (hourL (zt off V) = 0 ∨ monthB S (zt off V) = true ∧ dayB S (zt off V) = true ∧ yearL (zt off V) = yearL (zt off L1))) ∧ yearL (zt off V) ≤ lim + 1 := by
     rw [hXe]
     have h := atH_next P.zn HA.out hm hd hh
     have hf : f < L1 + 3600 := by rcases HA.out with h | h; (have := h.ge; omega); omega
     refine ⟨L1 + 3600, hok, rfl, by omega, Lib.hid ⟨.inl h.1, fun _ => ⟨h.1, hf⟩, h.2⟩, ?_⟩
     have al : zt off L1 % 3600 = 0 := by
      rcases HA.out with h | h
      ·exact (h.ho rfl).resolve_left (by rw [hh]; decide)
      ·exact h.2.2.2.1
     have := year_next (edge P.zn al).2
     omega
    have HSX := Lib.hid HS3.out
    rw [← hXe] at HSX
    clear hXe
    obtain ⟨V, hokX, hXn, hgt, HAT2, hyr⟩ := hX0
    have HAM : Hid (∀ (w' : World), Calls Try.prog 67 #[.agg (ucells l X), .int .i64 3600000000000] w' fun e' w2 => e' = .returned (.agg (ucells l V)) ∧ Below w'.heap.size w' w2) := Lib.hid (fun w' => by have := zAdd (l := l) 3600 X w' hokX (by omega) (by omega); rw [show (1000000000 : Int) * 3600 = 3600000000000 from rfl, hXn] at this; exact this)
    obtain ⟨hok2, -⟩ := P.ok2 (u := V) (by omega) hyr
    have HM2 : Hid (∀ (w' : World), Inv w' → Calls Try.prog 76 #[.agg (ucells l V)] w' fun e' w2 => e' = .returned (.int .i64 (hourL (zt off V))) ∧ Below w'.heap.size w' w2) := Lib.hid (fun w' hI' => zHour H V w' hok2 hI')
    go_wp2_with (refine wpList_load_row rfl 59 _ rfl T rfl _ _ _ _ HSX.out.row Try.underlying59 rfl timeSize ?_)
    refine (HAM.out _).mono ?_
    rintro e w6 ⟨rfl, hb6⟩
    have hst6 := HSX.out.below hK0 H.lk hb6
    go_wp2_with (first | (refine wpList_store_row rfl 59 _ _ rfl T (ucells l (V)) rfl rfl 59 _ hst6.row timeSize rfl (ucells_one _ _) ?_; generalize hX : World.setRow _ _ _ = wz; have HSZ := Lib.hid (show StZ l Loc0 Loc w T k0 k1 wz (V) by rw [← hX]; exact hst6.put hl0 hls _); clear hX) | (refine wpList_load_row rfl 59 _ rfl T rfl _ _ _ _ HSZ.out.row Try.underlying59 rfl timeSize ?_))
    refine (HM2.out _ (H.abs.keeps P.inv HSZ.out.bel)).mono ?_
    rintro e w7 ⟨rfl, hb7⟩
    have HS7 := Lib.hid (HSZ.out.below hK0 H.lk hb7)
    by_cases h1 : hourL (zt off V) = 0
    ·have hdd : (hourL (zt off V) == 0) = true := by simp [h1]
     go_wp2_with fail
     refine wp_goto ?_
     refine HJUMP.out _ _ V ?_ HS7.out (HAT2.out.2.1 h1).1 (by have := (HAT2.out.2.1 h1).2; omega) hyr
     exact ⟨rfl, rfl, rfl, rfl, rfl, rfl, rfl, rfl, rfl⟩
    ·have hdd : (hourL (zt off V) == 0) = false := by simp [h1]
     go_wp2_with fail
     exact ⟨⟨true, V, rfl, HS7, Lib.hid HAT2.out.1, (HAT2.out.2.2.resolve_left h1).1, (HAT2.out.2.2.resolve_left h1).2.1, by rw [(HAT2.out.2.2.resolve_left h1).2.2]; exact hy1, by omega⟩, by simpa [adN] using muZ_less P.zn HS.out HS7.out (by omega) hgt⟩
   | false =>
    have HY : Hid (∀ (w' : World), Inv w' → Calls Try.prog 71 #[.agg (ucells l L1)] w' fun e' w2 => e' = .returned (.int .i64 (yearL (zt off L1))) ∧ Below w'.heap.size w' w2) := Lib.hid (fun w' hI' => zYear H L1 w' hok hI')
    have HMo : Hid (∀ (w' : World), Inv w' → Calls Try.prog 72 #[.agg (ucells l L1)] w' fun e' w2 => e' = .returned (.int .i64 (monthL (zt off L1))) ∧ Below w'.heap.size w' w2) := Lib.hid (fun w' hI' => zMonth H L1 w' hok hI')
    have HDa : Hid (∀ (w' : World), Inv w' → Calls Try.prog 64 #[.agg (ucells l L1)] w' fun e' w2 => e' = .returned (.int .i64 (mdayL (zt off L1))) ∧ Below w'.heap.size w' w2) := Lib.hid (fun w' hI' => zDay H L1 w' hok hI')
    have HHo : Hid (∀ (w' : World), Inv w' → Calls Try.prog 76 #[.agg (ucells l L1)] w' fun e' w2 => e' = .returned (.int .i64 (hourL (zt off L1))) ∧ Below w'.heap.size w' w2) := Lib.hid (fun w' hI' => zHour H L1 w' hok hI')
    have HDT : Hid (∀ (w' : World), Loc w' k1 → Calls Try.prog 73 #[.int .i64 (yearL (zt off L1)), .int .i64 (monthL (zt off L1)), .int .i64 (mdayL (zt off L1)), .int .i64 (hourL (zt off L1)), .int .i64 0, .int .i64 0, .int .i64 0, .pointer (some ⟨k1, 0, none⟩)] w' fun e' w2 => e' = .returned (.agg (ucells l (dt off (zt off L1 / 3600 * 3600)))) ∧ Below w'.heap.size w' w2) := Lib.hid (fun w' hk => zDateHour H (zt off L1) k1 w' hyk hk)
    have hst3 := HS3.out
    go_upto_region 31 with fail
    refine wp_only ?_
    refine start_ (n := 11) (S := fun w' => w'.heap[T]? = some (.cells (ucells l L1) 59 (0, 0)) ∧ Below w3.heap.size w3 w') (ds := [10]) #[false, false, false, false, false, false, false, false, false, false, false] (by kernel_rfl) rfl rfl ⟨hst3.row, (Below.refl _ _).drew⟩ (fun hHeld => ?_)
    refine pure_ (i := 8) (N := some 124) (v := ?_) (a' := ?_) #[false, false, false, false, false, false, false, false, true, false, false] rfl rfl (by kernel_rfl) (fun _ _ _ h => h) (Or.inl ⟨by rfl, ?_⟩) ?_ ?_
    rotate_left
    ·intro w'
     go_simp
     with_reducible rfl
    rotate_left
    ·simp only [Act.put, List.setIfInBounds_toArray, List.set_cons_zero, List.set_cons_succ, i64_w, i32_w]
     rfl
    refine take_ (i := 0) (N := some 116) (v := ?_) (a' := ?_) #[true, false, false, false, false, false, false, false, true, false, false] rfl rfl (by kernel_rfl) (fun _ _ _ h => h) (Or.inl ⟨by rfl, ?_⟩) hHeld ?_ ?_
    rotate_left
    ·rintro w' ⟨s0, s1⟩
     refine exec_load_row _ _ w' 59 (.tmp 3) ?_ T ?_ _ _ _ _ s0 Try.underlying59 rfl timeSize
     ·rfl
     ·rfl
    rotate_left
    ·simp only [Act.put, List.setIfInBounds_toArray, List.set_cons_zero, List.set_cons_succ, i64_w, i32_w]
     rfl
    refine take_ (i := 2) (N := some 118) (v := ?_) (a' := ?_) #[true, false, true, false, false, false, false, false, true, false, false] rfl rfl (by kernel_rfl) (fun _ _ _ h => h) (Or.inl ⟨by rfl, ?_⟩) hHeld ?_ ?_
    rotate_left
    ·rintro w' ⟨s0, s1⟩
     refine exec_load_row _ _ w' 59 (.tmp 3) ?_ T ?_ _ _ _ _ s0 Try.underlying59 rfl timeSize
     ·rfl
     ·rfl
    rotate_left
    ·simp only [Act.put, List.setIfInBounds_toArray, List.set_cons_zero, List.set_cons_succ, i64_w, i32_w]
     rfl
    refine take_ (i := 4) (N := some 120) (v := ?_) (a' := ?_) #[true, false, true, false, true, false, false, false, true, false, false] rfl rfl (by kernel_rfl) (fun _ _ _ h => h) (Or.inl ⟨by rfl, ?_⟩) hHeld ?_ ?_
    rotate_left
    ·rintro w' ⟨s0, s1⟩
     refine exec_load_row _ _ w' 59 (.tmp 3) ?_ T ?_ _ _ _ _ s0 Try.underlying59 rfl timeSize
     ·rfl
     ·rfl
    rotate_left
    ·simp only [Act.put, List.setIfInBounds_toArray, List.set_cons_zero, List.set_cons_succ, i64_w, i32_w]
     rfl
    refine take_ (i := 6) (N := some 122) (v := ?_) (a' := ?_) #[true, false, true, false, true, false, true, false, true, false, false] rfl rfl (by kernel_rfl) (fun _ _ _ h => h) (Or.inl ⟨by rfl, ?_⟩) hHeld ?_ ?_
    rotate_left
    ·rintro w' ⟨s0, s1⟩
     refine exec_load_row _ _ w' 59 (.tmp 3) ?_ T ?_ _ _ _ _ s0 Try.underlying59 rfl timeSize
     ·rfl
     ·rfl
    rotate_left
    ·simp only [Act.put, List.setIfInBounds_toArray, List.set_cons_zero, List.set_cons_succ, i64_w, i32_w]
     rfl
    refine one_ (i := 1) (N := some 117) #[true, true, true, false, true, false, true, false, true, false, false] rfl rfl (by kernel_rfl) (by decide) (fun K hK => ?_)
    refine goes_ Try.func71 (by kernel_rfl) rfl #[.agg (ucells l L1)] (by rfl) rfl rfl (by simp only [List.map_toArray, List.map_cons, List.map_nil]; rfl) ?_
    with_reducible refine (HY.out _ (H.abs.keeps HI3.out hHeld.2)).mono ?_
    rintro e1 x1 ⟨rfl, hb1⟩
    refine ⟨_, rfl, ?_⟩
    refine hK.out _ _ ⟨(hb1.block _ (Array.getElem?_eq_some_iff.1 hHeld.1).1).trans hHeld.1, below_le hHeld.2 hb1⟩ (fun hHeld => ?_)
    clear hK K
    refine norm_ (a' := ?_) ?_ ?_
    rotate_left
    ·show Act.put _ (some 117) _ = _
     simp only [Act.put, List.setIfInBounds_toArray, List.set_cons_zero, List.set_cons_succ, i64_w, i32_w]
     rfl
    refine one_ (i := 3) (N := some 119) #[true, true, true, true, true, false, true, false, true, false, false] rfl rfl (by kernel_rfl) (by decide) (fun K hK => ?_)
    refine goes_ Try.func72 (by kernel_rfl) rfl #[.agg (ucells l L1)] (by rfl) rfl rfl (by simp only [List.map_toArray, List.map_cons, List.map_nil]; rfl) ?_
    with_reducible refine (HMo.out _ (H.abs.keeps HI3.out hHeld.2)).mono ?_
    rintro e3 x3 ⟨rfl, hb3⟩
    refine ⟨_, rfl, ?_⟩
    refine hK.out _ _ ⟨(hb3.block _ (Array.getElem?_eq_some_iff.1 hHeld.1).1).trans hHeld.1, below_le hHeld.2 hb3⟩ (fun hHeld => ?_)
    clear hK K
    refine norm_ (a' := ?_) ?_ ?_
    rotate_left
    ·show Act.put _ (some 119) _ = _
     simp only [Act.put, List.setIfInBounds_toArray, List.set_cons_zero, List.set_cons_succ, i64_w, i32_w]
     rfl
    refine one_ (i := 5) (N := some 121) #[true, true, true, true, true, true, true, false, true, false, false] rfl rfl (by kernel_rfl) (by decide) (fun K hK => ?_)
    refine goes_ Try.func64 (by kernel_rfl) rfl #[.agg (ucells l L1)] (by rfl) rfl rfl (by simp only [List.map_toArray, List.map_cons, List.map_nil]; rfl) ?_
    with_reducible refine (HDa.out _ (H.abs.keeps HI3.out hHeld.2)).mono ?_
    rintro e5 x5 ⟨rfl, hb5⟩
    refine ⟨_, rfl, ?_⟩
    refine hK.out _ _ ⟨(hb5.block _ (Array.getElem?_eq_some_iff.1 hHeld.1).1).trans hHeld.1, below_le hHeld.2 hb5⟩ (fun hHeld => ?_)
    clear hK K
    refine norm_ (a' := ?_) ?_ ?_
    rotate_left
    ·show Act.put _ (some 121) _ = _
     simp only [Act.put, List.setIfInBounds_toArray, List.set_cons_zero, List.set_cons_succ, i64_w, i32_w]
     rfl
    refine one_ (i := 7) (N := some 123) #[true, true, true, true, true, true, true, true, true, false, false] rfl rfl (by kernel_rfl) (by decide) (fun K hK => ?_)
    refine goes_ Try.func76 (by kernel_rfl) rfl #[.agg (ucells l L1)] (by rfl) rfl rfl (by simp only [List.map_toArray, List.map_cons, List.map_nil]; rfl) ?_
    with_reducible refine (HHo.out _ (H.abs.keeps HI3.out hHeld.2)).mono ?_
    rintro e7 x7 ⟨rfl, hb7⟩
    refine ⟨_, rfl, ?_⟩
    refine hK.out _ _ ⟨(hb7.block _ (Array.getElem?_eq_some_iff.1 hHeld.1).1).trans hHeld.1, below_le hHeld.2 hb7⟩ (fun hHeld => ?_)
    clear hK K
    refine norm_ (a' := ?_) ?_ ?_
    rotate_left
    ·show Act.put _ (some 123) _ = _
     simp only [Act.put, List.setIfInBounds_toArray, List.set_cons_zero, List.set_cons_succ, i64_w, i32_w]
     rfl
    refine one_ (i := 9) (N := some 125) #[true, true, true, true, true, true, true, true, true, true, false] rfl rfl (by kernel_rfl) (by decide) (fun K hK => ?_)
    refine goes_ Try.func73 (by kernel_rfl) rfl #[.int .i64 (yearL (zt off L1)), .int .i64 (monthL (zt off L1)), .int .i64 (mdayL (zt off L1)), .int .i64 (hourL (zt off L1)), .int .i64 0, .int .i64 0, .int .i64 0, .pointer (some ⟨k1, 0, none⟩)] (by rfl) rfl rfl (by simp only [List.map_toArray, List.map_cons, List.map_nil]; rfl) ?_
    with_reducible refine (HDT.out _ (H.locK hst3.loc1 hHeld.2)).mono ?_
    rintro e9 x9 ⟨rfl, hb9⟩
    refine ⟨_, rfl, ?_⟩
    refine hK.out _ _ ⟨(hb9.block _ (Array.getElem?_eq_some_iff.1 hHeld.1).1).trans hHeld.1, below_le hHeld.2 hb9⟩ (fun hHeld => ?_)
    clear hK K
    refine norm_ (a' := ?_) ?_ ?_
    rotate_left
    ·show Act.put _ (some 125) _ = _
     simp only [Act.put, List.setIfInBounds_toArray, List.set_cons_zero, List.set_cons_succ, i64_w, i32_w]
     rfl
    refine last_ (i := 10) (N := none) #[true, true, true, true, true, true, true, true, true, true, true] rfl rfl (by kernel_rfl) (by decide) (fun K hK => ?_)
    rw [if_pos (by rfl)]
    refine wp_store_row 59 _ _ rfl T (ucells l (dt off (zt off L1 / 3600 * 3600))) rfl rfl 59 _ hHeld.1 timeSize rfl (ucells_one _ _) ?_
    refine hK.out _ _ ?_
    clear hK K
    refine done_ (by kernel_rfl) ?_
    dsimp only [only]
    have hst5 := hst3.below hK0 H.lk hHeld.2
    generalize hX : World.setRow _ T _ = wx
    have hstx : StZ l Loc0 Loc w T k0 k1 wx (dt off (zt off L1 / 3600 * 3600)) := by
     rw [← hX]
     exact hst5.put hl0 hls (dt off (zt off L1 / 3600 * 3600))
    have HSX0 := Lib.hid hstx
    clear hstx hX hst3 hst5 hHeld HS3
    obtain ⟨X, hXe⟩ : ∃ X, X = dt off (zt off L1 / 3600 * 3600) := ⟨_, rfl⟩
    have hatz : AtZ off S f false L1 := by
     rcases HA.out with h | h
     ·exact h
     ·exact absurd h.1 (by decide)
    have hL1f : L1 = f := hatz.fst rfl
    have hX0 : ∃ V, UOk X ∧ X + 3600 = V ∧ L1 ≤ V + 3600 ∧ Hid (AtH off S f true V ∧ (hourL (zt off V) = 0 → AtZ off S f true V ∧ f < V) ∧ (hourL (zt off V) = 0 ∨ monthB S (zt off V) = true ∧ dayB S (zt off V) = true ∧ yearL (zt off V) = yearL (zt off L1))) ∧ yearL (zt off V) ≤ lim + 1 := by
     have h := atH_first P.zn hatz hm hd hh hL1f
     rw [← hXe] at h
     obtain ⟨h1, h2, h3, h4, h5⟩ := h
     have hg := mNext_gt (zt off L1)
     have hlo : mFirst (zt off L1) * 86400 ≤ zt off X := by rw [h5]; omega
     refine ⟨X + 3600, (P.okX (u := L1) (by omega) (by omega) hlo (by rw [h5]; omega)).1, rfl, by omega, Lib.hid ⟨h1, fun h0 => ⟨(h3 h0).1, by have := (h3 h0).2; omega⟩, h4⟩, ?_⟩
     have e := year_next (edge P.zn (u := X) (by rw [h5]; omega)).2
     have e2 := (same_day (L := zt off L1) (x := zt off X) (by rw [h5]; omega)).2.1
     omega
    clear hatz
    have HSX := Lib.hid HSX0.out
    clear HSX0
    rw [← hXe] at HSX ⊢
    clear hXe
    obtain ⟨V, hokX, hXn, hgt, HAT2, hyr⟩ := hX0
    have HAM : Hid (∀ (w' : World), Calls Try.prog 67 #[.agg (ucells l X), .int .i64 3600000000000] w' fun e' w2 => e' = .returned (.agg (ucells l V)) ∧ Below w'.heap.size w' w2) := Lib.hid (fun w' => by have := zAdd (l := l) 3600 X w' hokX (by omega) (by omega); rw [show (1000000000 : Int) * 3600 = 3600000000000 from rfl, hXn] at this; exact this)
    obtain ⟨hok2, -⟩ := P.ok2 (u := V) (by omega) hyr
    have HM2 : Hid (∀ (w' : World), Inv w' → Calls Try.prog 76 #[.agg (ucells l V)] w' fun e' w2 => e' = .returned (.int .i64 (hourL (zt off V))) ∧ Below w'.heap.size w' w2) := Lib.hid (fun w' hI' => zHour H V w' hok2 hI')
    go_wp2_with (refine wpList_load_row rfl 59 _ rfl T rfl _ _ _ _ HSX.out.row Try.underlying59 rfl timeSize ?_)
    refine (HAM.out _).mono ?_
    rintro e w6 ⟨rfl, hb6⟩
    have hst6 := HSX.out.below hK0 H.lk hb6
    go_wp2_with (first | (refine wpList_store_row rfl 59 _ _ rfl T (ucells l (V)) rfl rfl 59 _ hst6.row timeSize rfl (ucells_one _ _) ?_; generalize hX : World.setRow _ _ _ = wz; have HSZ := Lib.hid (show StZ l Loc0 Loc w T k0 k1 wz (V) by rw [← hX]; exact hst6.put hl0 hls _); clear hX) | (refine wpList_load_row rfl 59 _ rfl T rfl _ _ _ _ HSZ.out.row Try.underlying59 rfl timeSize ?_))
    refine (HM2.out _ (H.abs.keeps P.inv HSZ.out.bel)).mono ?_
    rintro e w7 ⟨rfl, hb7⟩
    have HS7 := Lib.hid (HSZ.out.below hK0 H.lk hb7)
    by_cases h1 : hourL (zt off V) = 0
    ·have hdd : (hourL (zt off V) == 0) = true := by simp [h1]
     go_wp2_with fail
     refine wp_goto ?_
     refine HJUMP.out _ _ V ?_ HS7.out (HAT2.out.2.1 h1).1 (by have := (HAT2.out.2.1 h1).2; omega) hyr
     exact ⟨rfl, rfl, rfl, rfl, rfl, rfl, rfl, rfl, rfl⟩
    ·have hdd : (hourL (zt off V) == 0) = false := by simp [h1]
     go_wp2_with fail
     exact ⟨⟨true, V, rfl, HS7, Lib.hid HAT2.out.1, (HAT2.out.2.2.resolve_left h1).1, (HAT2.out.2.2.resolve_left h1).2.1, by rw [(HAT2.out.2.2.resolve_left h1).2.2]; exact hy1, .inr (by omega)⟩, by simpa [adN] using muZ_less2 P.zn HS.out HS7.out (by omega) hgt⟩
end Go.Proofs.Ytlopkdhblfibkaa.Cal
namespace Go.Proofs.Ytlopkdhblfibkaa.Cal
open Go Go.RowKit Go.Proofs.YtlopkdhblfibkaaW.PrintWords Go.Proofs.YtlopkdhblfibkaaW.PrintLast
set_option linter.unusedVariables false
set_option linter.unusedSimpArgs false
set_option maxRecDepth 100000 in
set_option maxHeartbeats 8000000 in
theorem zloop3 {l : Option Addr} {off : Int → Int} {Inv : World → Prop} {Loc0 Loc : World → Nat → Prop} (H : ClockZ l off Inv Loc) (hK0 : LocK Loc0) (hl0 : LocS Loc0) (hls : LocS Loc) {w : World} {g T k0 k1 : Nat} {loc : Option Addr} {S : Sets} {f lim : Int} (P : ParZ off Inv w g loc S f lim) (Q : Exit → Act → World → Prop) (L : Int) (ad : Bool) (a : Act) (wr : World) (ha : Fr g T k0 k1 ad lim a) (hst : StZ l Loc0 Loc w T k0 k1 wr L) (hat : AtZ off S f ad L) (hy : yearL (zt off L) ≤ lim) (hm : monthB S (zt off L) = true) (hd : dayB S (zt off L) = true) (hh : hourB S (zt off L) = true)
  (next : ∀ (a' : Act) (w' : World) (L' : Int) (ad' : Bool), Fr g T k0 k1 ad' lim a' → StZ l Loc0 Loc w T k0 k1 w' L' → AtZ off S f ad' L' → monthB S (zt off L') = true ∧ dayB S (zt off L') = true ∧ hourB S (zt off L') = true ∧ minB S (zt off L') = true → yearL (zt off L') ≤ lim → L ≤ L' → Q .normal a' w')
  (jump : ∀ (a' : Act) (w' : World) (L' : Int), Fr g T k0 k1 true lim a' → StZ l Loc0 Loc w T k0 k1 w' L' → AtZ off S f true L' → L < L' → yearL (zt off L') ≤ lim + 1 → Q (.goto 0) a' w') :
  (loopK (Try.f69.body.getD .skip) 3).wp Try.prog (Exit.inBlock 6 Q) a wr := by
 obtain ⟨u, rfl⟩ := ha.open
 have HNEXT := Lib.hid next
 have HJUMP := Lib.hid jump
 have HST := Lib.hid hst
 have HAT := Lib.hid hat
 have hfL := hat.ge
 clear next jump hst hat ha
 simp only [loopK, loops, Try.f69, Option.getD_some, List.append_assoc, List.cons_append, List.nil_append, List.getElem?_cons_zero, List.getElem?_cons_succ]
 go_loopw [7] (fun v7 wr => ∃ (ad : Bool) (L' : Int), v7 = .bool ad ∧ Hid (StZ l Loc0 Loc w T k0 k1 wr L') ∧ Hid (AtZ off S f ad L') ∧ monthB S (zt off L') = true ∧ dayB S (zt off L') = true ∧ hourB S (zt off L') = true ∧ yearL (zt off L') ≤ lim ∧ L ≤ L') (fun _ wr => muZ T (bndZ lim) wr)
 case atStart => exact ⟨ad, L, rfl, HST, HAT, hm, hd, hh, hy, Int.le_refl _⟩
 case round =>
  clear hm hd hh
  obtain ⟨ad, L1, rfl, HS, HA, hm, hd, hh, hy1, hle⟩ := hrel
  clear HST HAT hy
  have hge : f - 3600 ≤ L1 := by have := HA.out.ge; omega
  obtain ⟨hok, hyk, -⟩ := P.ok2 (u := L1) (by omega) (by omega)
  obtain ⟨wo, hwo⟩ : ∃ wo, wo = wr := ⟨_, rfl⟩
  subst hwo
  have hspec : SpecRow wo g S loc := P.spec.below HS.out.bel
  have HI := Lib.hid (H.abs.keeps P.inv HS.out.bel)
  have HC : Hid (∀ (w' : World), Inv w' → Calls Try.prog 77 #[.agg (ucells l L1)] w' fun e' w2 => e' = .returned (.int .i64 (minL (zt off L1))) ∧ Below w'.heap.size w' w2) := Lib.hid (fun w' hI' => zMinute H L1 w' hok hI')
  have hm12 : 0 ≤ minL (zt off L1) ∧ minL (zt off L1) < 60 := by unfold minL; omega
  have hst := HS.out
  go_upto_region 34 with fail
  refine wp_only ?_
  refine start_ (n := 10) (S := fun w' => w'.heap[T]? = some (.cells (ucells l L1) 59 (0, 0)) ∧ SpecRow w' g S loc ∧ Below wo.heap.size wo w') (ds := []) #[false, false, false, false, false, false, false, false, false, false] (by kernel_rfl) rfl rfl ⟨hst.row, hspec, (Below.refl _ _).drew⟩ (fun hHeld => ?_)
  refine pure_ (i := 4) (N := some 135) (v := ?_) (a' := ?_) #[false, false, false, false, true, false, false, false, false, false] rfl rfl (by kernel_rfl) (fun _ _ _ h => h) (Or.inl ⟨by rfl, ?_⟩) ?_ ?_
  rotate_left
  ·intro w'
   go_simp
   with_reducible rfl
  rotate_left
  ·simp only [Act.put, List.setIfInBounds_toArray, List.set_cons_zero, List.set_cons_succ, i64_w, i32_w]
   rfl
  refine pure_ (i := 5) (N := some 136) (v := ?_) (a' := ?_) #[false, false, false, false, true, true, false, false, false, false] rfl rfl (by kernel_rfl) (fun _ _ _ h => h) (Or.inl ⟨by rfl, ?_⟩) ?_ ?_
  rotate_left
  ·intro w'
   go_simp
   with_reducible rfl
  rotate_left
  ·simp only [Act.put, List.setIfInBounds_toArray, List.set_cons_zero, List.set_cons_succ, i64_w, i32_w]
   rfl
  refine pure_ (i := 6) (N := some 137) (v := ?_) (a' := ?_) #[false, false, false, false, true, true, true, false, false, false] rfl rfl (by kernel_rfl) (fun _ _ _ h => h) (Or.inl ⟨by rfl, ?_⟩) ?_ ?_
  rotate_left
  ·intro w'
   go_simp
   with_reducible rfl
  rotate_left
  ·simp only [Act.put, List.setIfInBounds_toArray, List.set_cons_zero, List.set_cons_succ, i64_w, i32_w]
   rfl
  refine take_ (i := 0) (N := some 131) (v := ?_) (a' := ?_) #[true, false, false, false, true, true, true, false, false, false] rfl rfl (by kernel_rfl) (fun _ _ _ h => h) (Or.inl ⟨by rfl, ?_⟩) hHeld ?_ ?_
  rotate_left
  ·rintro w' ⟨s0, s1, s2⟩
   refine exec_load_row _ _ w' 59 (.tmp 3) ?_ T ?_ _ _ _ _ s0 Try.underlying59 rfl timeSize
   ·rfl
   ·rfl
  rotate_left
  ·simp only [Act.put, List.setIfInBounds_toArray, List.set_cons_zero, List.set_cons_succ, i64_w, i32_w]
   rfl
  refine take_ (i := 7) (N := some 138) (v := ?_) (a' := ?_) #[true, false, false, false, true, true, true, true, false, false] rfl rfl (by kernel_rfl) (fun _ _ _ h => h) (Or.inl ⟨by rfl, ?_⟩) hHeld ?_ ?_
  rotate_left
  ·rintro w' ⟨s0, s1, s2⟩
   have c3 : w'.cell? ⟨g, 1, none⟩ = some (.int .u64 (S.min : Int)) := cell_of_row _ _ _ _ _ _ s1
   go_simp
   with_reducible rfl
  rotate_left
  ·simp only [Act.put, List.setIfInBounds_toArray, List.set_cons_zero, List.set_cons_succ, i64_w, i32_w]
   rfl
  refine one_ (i := 1) (N := some 132) #[true, true, false, false, true, true, true, true, false, false] rfl rfl (by kernel_rfl) (by decide) (fun K hK => ?_)
  refine goes_ Try.func77 (by kernel_rfl) rfl #[.agg (ucells l L1)] (by rfl) rfl rfl (by simp only [List.map_toArray, List.map_cons, List.map_nil]; rfl) ?_
  with_reducible refine (HC.out _ (H.abs.keeps HI.out hHeld.2.2)).mono ?_
  rintro e3 w3 ⟨rfl, hb1⟩
  refine ⟨_, rfl, ?_⟩
  refine hK.out _ _ ⟨(hb1.block _ (Array.getElem?_eq_some_iff.1 hHeld.1).1).trans hHeld.1, hHeld.2.1.below hb1, below_le hHeld.2.2 hb1⟩ (fun hHeld => ?_)
  clear hK K
  refine norm_ (a' := ?_) ?_ ?_
  rotate_left
  ·show Act.put _ (some 132) _ = _
   simp only [Act.put, List.setIfInBounds_toArray, List.set_cons_zero, List.set_cons_succ, i64_w, i32_w]
   rfl
  refine pure_ (i := 2) (N := some 133) (v := ?_) (a' := ?_) #[true, true, true, false, true, true, true, true, false, false] rfl rfl (by kernel_rfl) (fun _ _ _ h => h) (Or.inl ⟨by rfl, ?_⟩) ?_ ?_
  rotate_left
  ·intro w'
   go_simp
   with_reducible rfl
  rotate_left
  ·simp only [Act.put, List.setIfInBounds_toArray, List.set_cons_zero, List.set_cons_succ, i64_w, i32_w]
   rfl
  refine pure_ (i := 3) (N := some 134) (v := ?_) (a' := ?_) #[true, true, true, true, true, true, true, true, false, false] rfl rfl (by kernel_rfl) (fun _ _ _ h => h) (Or.inl ⟨by rfl, ?_⟩) ?_ ?_
  rotate_left
  ·intro w'
   go_simp
   with_reducible rfl
  rotate_left
  ·simp only [Act.put, List.setIfInBounds_toArray, List.set_cons_zero, List.set_cons_succ, i64_w, i32_w]
   rfl
  refine pure_ (i := 8) (N := some 139) (v := ?_) (a' := ?_) #[true, true, true, true, true, true, true, true, true, false] rfl rfl (by kernel_rfl) (fun _ _ _ h => h) (Or.inl ⟨by rfl, ?_⟩) ?_ ?_
  rotate_left
  ·intro w'
   go_simp
   with_reducible rfl
  rotate_left
  ·simp only [Act.put, List.setIfInBounds_toArray, List.set_cons_zero, List.set_cons_succ, i64_w, i32_w]
   rfl
  refine pure_ (i := 9) (N := some 140) (v := ?_) (a' := ?_) #[true, true, true, true, true, true, true, true, true, true] rfl rfl (by kernel_rfl) (fun _ _ _ h => h) (Or.inl ⟨by rfl, ?_⟩) ?_ ?_
  rotate_left
  ·intro w'
   go_simp
   with_reducible rfl
  rotate_left
  ·simp only [Act.put, List.setIfInBounds_toArray, List.set_cons_zero, List.set_cons_succ, i64_w, i32_w]
   rfl
  refine done_ (by kernel_rfl) ?_
  dsimp only [only]
  obtain ⟨-, hspec3, hb3⟩ := hHeld
  have HS3 := Lib.hid (HS.out.below hK0 H.lk hb3)
  have HI3 := Lib.hid (H.abs.keeps P.inv HS3.out.bel)
  rw [bit_eq P.ok.2.1 (by omega) (by omega)]
  have hmB : inB S.min (minL (zt off L1)) = minB S (zt off L1) := rfl
  rw [hmB]
  generalize IntKind.u64.wrap (2 ^ min (IntKind.u64.wrap (minL (zt off L1))).toNat 64) = junk
  clear hst hspec hspec3 hmB hb1 hb3
  cases hi : minB S (zt off L1) with
  | true =>
   go_wp2_with fail
   exact HNEXT.out _ _ L1 ad ⟨rfl, rfl, rfl, rfl, rfl, rfl, rfl, rfl, rfl⟩ HS3.out HA.out ⟨hm, hd, hh, hi⟩ hy1 hle
  | false =>
   cases ad with
   | true =>
    obtain ⟨X, hXe⟩ : ∃ X, X = L1 := ⟨_, rfl⟩
    have hX0 : ∃ V, UOk X ∧ X + 60 = V ∧ L1 < V ∧ Hid (AtZ off S f true V ∧ (minL (zt off V) = 0 ∨ monthB S (zt off V) = true ∧ dayB S (zt off V) = true ∧ hourB S (zt off V) = true ∧ yearL (zt off V) = yearL (zt off L1))) ∧ yearL (zt off V) ≤ lim + 1 := by
     rw [hXe]
     have h := atZ_min P.zn HA.out hm hd hh hi
     have h60 : L1 / 60 * 60 = L1 := by
      have := (HA.out.mi rfl).resolve_left (by rw [hi]; decide)
      have h6 := P.zn.m60 L1
      unfold zt at this
      omega
     rw [h60] at h
     exact ⟨L1 + 60, hok, rfl, by omega, Lib.hid ⟨h.1, h.2.1⟩, by have := h.2.2; omega⟩
    have HSX := Lib.hid HS3.out
    rw [← hXe] at HSX
    clear hXe
    obtain ⟨V, hokX, hXn, hgt, HAT2, hyr⟩ := hX0
    have HAM : Hid (∀ (w' : World), Calls Try.prog 67 #[.agg (ucells l X), .int .i64 60000000000] w' fun e' w2 => e' = .returned (.agg (ucells l V)) ∧ Below w'.heap.size w' w2) := Lib.hid (fun w' => by have := zAdd (l := l) 60 X w' hokX (by omega) (by omega); rw [show (1000000000 : Int) * 60 = 60000000000 from rfl, hXn] at this; exact this)
    obtain ⟨hok2, -⟩ := P.ok2 (u := V) (by omega) hyr
    have HM2 : Hid (∀ (w' : World), Inv w' → Calls Try.prog 77 #[.agg (ucells l V)] w' fun e' w2 => e' = .returned (.int .i64 (minL (zt off V))) ∧ Below w'.heap.size w' w2) := Lib.hid (fun w' hI' => zMinute H V w' hok2 hI')
    go_wp2_with (refine wpList_load_row rfl 59 _ rfl T rfl _ _ _ _ HSX.out.row Try.underlying59 rfl timeSize ?_)
    refine (HAM.out _).mono ?_
    rintro e w6 ⟨rfl, hb6⟩
    have hst6 := HSX.out.below hK0 H.lk hb6
    go_wp2_with (first | (refine wpList_store_row rfl 59 _ _ rfl T (ucells l (V)) rfl rfl 59 _ hst6.row timeSize rfl (ucells_one _ _) ?_; generalize hX : World.setRow _ _ _ = wz; have HSZ := Lib.hid (show StZ l Loc0 Loc w T k0 k1 wz (V) by rw [← hX]; exact hst6.put hl0 hls _); clear hX) | (refine wpList_load_row rfl 59 _ rfl T rfl _ _ _ _ HSZ.out.row Try.underlying59 rfl timeSize ?_))
    refine (HM2.out _ (H.abs.keeps P.inv HSZ.out.bel)).mono ?_
    rintro e w7 ⟨rfl, hb7⟩
    have HS7 := Lib.hid (HSZ.out.below hK0 H.lk hb7)
    by_cases h1 : minL (zt off V) = 0
    ·have hdd : (minL (zt off V) == 0) = true := by simp [h1]
     go_wp2_with fail
     refine wp_goto ?_
     refine HJUMP.out _ _ V ?_ HS7.out HAT2.out.1 (by omega) hyr
     exact ⟨rfl, rfl, rfl, rfl, rfl, rfl, rfl, rfl, rfl⟩
    ·have hdd : (minL (zt off V) == 0) = false := by simp [h1]
     go_wp2_with fail
     exact ⟨⟨true, V, rfl, HS7, Lib.hid HAT2.out.1, (HAT2.out.2.resolve_left h1).1, (HAT2.out.2.resolve_left h1).2.1, (HAT2.out.2.resolve_left h1).2.2.1, by rw [(HAT2.out.2.resolve_left h1).2.2.2]; exact hy1, by omega⟩, muZ_less P.zn HS.out HS7.out (by omega) (by omega)⟩
   | false =>
    have HTR : Hid (∀ (w' : World), Calls Try.prog 78 #[.agg (ucells l L1), .int .i64 60000000000] w' fun e' w2 => e' = .returned (.agg (ucells l (L1 / 60 * 60))) ∧ Below w'.heap.size w' w2) := Lib.hid (fun w' => zTrunc60 L1 w' (by have := P.f0; have := HA.out.ge; omega) hok)
    go_wp2_with (refine wpList_load_row rfl 59 _ rfl T rfl _ _ _ _ HS3.out.row Try.underlying59 rfl timeSize ?_)
    refine (HTR.out _).mono ?_
    rintro e w5 ⟨rfl, hb5⟩
    have hst5 := HS3.out.below hK0 H.lk hb5
    obtain ⟨X, hXe⟩ : ∃ X, X = L1 / 60 * 60 := ⟨_, rfl⟩
    have hX0 : ∃ V, UOk X ∧ X + 60 = V ∧ L1 < V ∧ Hid (AtZ off S f true V ∧ (minL (zt off V) = 0 ∨ monthB S (zt off V) = true ∧ dayB S (zt off V) = true ∧ hourB S (zt off V) = true ∧ yearL (zt off V) = yearL (zt off L1))) ∧ yearL (zt off V) ≤ lim + 1 := by
     have h := atZ_min P.zn HA.out hm hd hh hi
     rw [← hXe] at h
     have h0 := P.f0
     have h1 := HA.out.ge
     exact ⟨X + 60, ⟨by omega, by have := hok.2; omega⟩, rfl, by omega, Lib.hid ⟨h.1, h.2.1⟩, by have := h.2.2; omega⟩
    rw [← hXe]
    clear hXe
    have HSX0 : Hid (StZ l Loc0 Loc w T k0 k1 (w5.setRow T (ucells l X)) X) := Lib.hid (hst5.put hl0 hls X)
    have HROW5 := Lib.hid hst5.row
    clear hst5 hb5 HS3
    obtain ⟨V, hokX, hXn, hgt, HAT2, hyr⟩ := hX0
    have HAM : Hid (∀ (w' : World), Calls Try.prog 67 #[.agg (ucells l X), .int .i64 60000000000] w' fun e' w2 => e' = .returned (.agg (ucells l V)) ∧ Below w'.heap.size w' w2) := Lib.hid (fun w' => by have := zAdd (l := l) 60 X w' hokX (by omega) (by omega); rw [show (1000000000 : Int) * 60 = 60000000000 from rfl, hXn] at this; exact this)
    obtain ⟨hok2, -⟩ := P.ok2 (u := V) (by omega) hyr
    have HM2 : Hid (∀ (w' : World), Inv w' → Calls Try.prog 77 #[.agg (ucells l V)] w' fun e' w2 => e' = .returned (.int .i64 (minL (zt off V))) ∧ Below w'.heap.size w' w2) := Lib.hid (fun w' hI' => zMinute H V w' hok2 hI')
    go_wp2_with (first | (refine wpList_store_row rfl 59 _ _ rfl T (ucells l X) rfl rfl 59 _ HROW5.out timeSize rfl (ucells_one _ _) ?_; generalize hX5 : World.setRow _ _ _ = wx; have HSX := Lib.hid (show StZ l Loc0 Loc w T k0 k1 wx X by rw [← hX5]; exact HSX0.out); clear hX5) | (refine wpList_load_row rfl 59 _ rfl T rfl _ _ _ _ HSX.out.row Try.underlying59 rfl timeSize ?_))
    refine (HAM.out _).mono ?_
    rintro e w6 ⟨rfl, hb6⟩
    have hst6 := HSX.out.below hK0 H.lk hb6
    go_wp2_with (first | (refine wpList_store_row rfl 59 _ _ rfl T (ucells l (V)) rfl rfl 59 _ hst6.row timeSize rfl (ucells_one _ _) ?_; generalize hX : World.setRow _ _ _ = wz; have HSZ := Lib.hid (show StZ l Loc0 Loc w T k0 k1 wz (V) by rw [← hX]; exact hst6.put hl0 hls _); clear hX) | (refine wpList_load_row rfl 59 _ rfl T rfl _ _ _ _ HSZ.out.row Try.underlying59 rfl timeSize ?_))
    refine (HM2.out _ (H.abs.keeps P.inv HSZ.out.bel)).mono ?_
    rintro e w7 ⟨rfl, hb7⟩
    have HS7 := Lib.hid (HSZ.out.below hK0 H.lk hb7)
    by_cases h1 : minL (zt off V) = 0
    ·have hdd : (minL (zt off V) == 0) = true := by simp [h1]
     go_wp2_with fail
     refine wp_goto ?_
     refine HJUMP.out _ _ V ?_ HS7.out HAT2.out.1 (by omega) hyr
     exact ⟨rfl, rfl, rfl, rfl, rfl, rfl, rfl, rfl, rfl⟩
    ·have hdd : (minL (zt off V) == 0) = false := by simp [h1]
     go_wp2_with fail
     exact ⟨⟨true, V, rfl, HS7, Lib.hid HAT2.out.1, (HAT2.out.2.resolve_left h1).1, (HAT2.out.2.resolve_left h1).2.1, (HAT2.out.2.resolve_left h1).2.2.1, by rw [(HAT2.out.2.resolve_left h1).2.2.2]; exact hy1, by omega⟩, muZ_less P.zn HS.out HS7.out (by omega) (by omega)⟩
end Go.Proofs.Ytlopkdhblfibkaa.Cal
