/- Lemmas and walks on the way to the law, merged by wip/tools/pack.py: DurF, DurP, Closure, Options, Fill, Lower. Conditions: none. -/
import Derived.Test.YtmecbmgfacpecaaGreatDoorGrE
set_option linter.unusedVariables false
set_option linter.unusedSimpArgs false
namespace Go.Proofs.YtmecbmgfacpecaaGreatDoor.Cron
open Go Go.RowKit Go.Proofs.YtmecbmgfacpecaaGreatDoor.Text Go.Proofs.YtmecbmgfacpecaaGreatDoorW.PrintWords Go.Proofs.YtmecbmgfacpecaaGreatDoorW.PrintLast Go.Proofs.YtmecbmgfacpecaaGreatDoorW.PrintMore Go.Proofs.YtmecbmgfacpecaaGreatDoor.Dur
theorem viaThen {P : Program} {C : Code} {Q : Exit → Act → World → Prop} {K : Act → World → Prop} {G : Prop} (hK : ∀ a w, Code.wp P C Q a w → K a w) (R : Act → World → Prop) (h1 : ∀ a w, R a w → Code.wp P C Q a w) (h2 : Hid (∀ a w, R a w → K a w) → G) : G := h2 (Lib.hid (fun a w h => hK a w (h1 a w h)))
def DurAns (r : Option Int) (e : Ending) : Prop := match r with
 | some d => e = .returned (.tuple #[.int .i64 d, .nilIface])
 | none => ∃ t x, e = .returned (.tuple #[.int .i64 0, .iface t x])
def strD : Value → Nat
 | .string b => b.size
 | _ => 0
theorem tw_is {l : List UInt8} {i : Nat} (h : ∀ x ∈ l.take i, isU x = true) (h2 : l.drop i = [] ∨ ∃ c r, l.drop i = c :: r ∧ isU c = false) : l.takeWhile isU = l.take i ∧ l.dropWhile isU = l.drop i := by
 have e := List.take_append_drop i l
 have key : ∀ (a b : List UInt8), (∀ x ∈ a, isU x = true) → (b = [] ∨ ∃ c r, b = c :: r ∧ isU c = false) → (a ++ b).takeWhile isU = a ∧ (a ++ b).dropWhile isU = b := by
  intro a;induction a with
  | nil =>
   intro b _ hb;rcases hb with rfl | ⟨c, r, rfl, hc⟩
   ·exact ⟨rfl, rfl⟩
   ·simp [List.takeWhile, List.dropWhile, hc]
  | cons y a ih =>
   intro b ha hb;have := ih b (fun x hx => ha x (by simp [hx])) hb;simp [ha y (by simp), this]
 have := key _ _ h h2;rw [e] at this;exact this
theorem list_formD (l : List Value) : ∀ n, l.length = n → l = (List.range n).map (fun i => l.getD i undef) := by
 intro n hn;apply List.ext_getElem?
 intro i;by_cases hi : i < n
 ·simp [hn, hi]
 ·simp [hn, hi]
set_option maxRecDepth 100000 in
theorem frame_open (a : Act) (h : a.tmps.size = 209) (hd : a.defers = []) : ∃ u : Nat → Value, (∀ i, u i = a.tmps.getD i undef) ∧ a = { tmps := #[u 0, u 1, u 2, u 3, u 4, u 5, u 6, u 7, u 8, u 9, u 10, u 11, u 12, u 13, u 14, u 15, u 16, u 17, u 18, u 19, u 20, u 21, u 22, u 23, u 24, u 25, u 26, u 27, u 28, u 29, u 30, u 31, u 32, u 33, u 34, u 35, u 36, u 37, u 38, u 39, u 40, u 41, u 42, u 43, u 44, u 45, u 46, u 47, u 48, u 49, u 50, u 51, u 52, u 53, u 54, u 55, u 56, u 57, u 58, u 59, u 60, u 61, u 62, u 63, u 64, u 65, u 66, u 67, u 68, u 69, u 70, u 71, u 72, u 73, u 74, u 75, u 76, u 77, u 78, u 79, u 80, u 81, u 82, u 83, u 84, u 85, u 86, u 87, u 88, u 89, u 90, u 91, u 92, u 93, u 94, u 95, u 96, u 97, u 98, u 99, u 100, u 101, u 102, u 103, u 104, u 105, u 106, u 107, u 108, u 109, u 110, u 111, u 112, u 113, u 114, u 115, u 116, u 117, u 118, u 119, u 120, u 121, u 122, u 123, u 124, u 125, u 126, u 127, u 128, u 129, u 130, u 131, u 132, u 133, u 134, u 135, u 136, u 137, u 138, u 139, u 140, u 141, u 142, u 143, u 144, u 145, u 146, u 147, u 148, u 149, u 150, u 151, u 152, u 153, u 154, u 155, u 156, u 157, u 158, u 159, u 160, u 161, u 162, u 163, u 164, u 165, u 166, u 167, u 168, u 169, u 170, u 171, u 172, u 173, u 174, u 175, u 176, u 177, u 178, u 179, u 180, u 181, u 182, u 183, u 184, u 185, u 186, u 187, u 188, u 189, u 190, u 191, u 192, u 193, u 194, u 195, u 196, u 197, u 198, u 199, u 200, u 201, u 202, u 203, u 204, u 205, u 206, u 207, u 208], defers := [] } := by
 obtain ⟨t, d⟩ := a;dsimp only at *;subst hd;refine ⟨fun i => t.getD i undef, fun i => rfl, ?_⟩;have hl := list_formD t.toList 209 (by simpa using h);have he : t = ((List.range 209).map (fun i => t.toList.getD i undef)).toArray := by rw [← hl]
 have hg : ∀ i, t.toList.getD i undef = t.getD i undef := fun i => by simp [List.getD, Array.getD_eq_getD_getElem?]
 simp only [hg] at he;have e2 : ((List.range 209).map (fun i => t.getD i undef)).toArray = #[t.getD 0 undef, t.getD 1 undef, t.getD 2 undef, t.getD 3 undef, t.getD 4 undef, t.getD 5 undef, t.getD 6 undef, t.getD 7 undef, t.getD 8 undef, t.getD 9 undef, t.getD 10 undef, t.getD 11 undef, t.getD 12 undef, t.getD 13 undef, t.getD 14 undef, t.getD 15 undef, t.getD 16 undef, t.getD 17 undef, t.getD 18 undef, t.getD 19 undef, t.getD 20 undef, t.getD 21 undef, t.getD 22 undef, t.getD 23 undef, t.getD 24 undef, t.getD 25 undef, t.getD 26 undef, t.getD 27 undef, t.getD 28 undef, t.getD 29 undef, t.getD 30 undef, t.getD 31 undef, t.getD 32 undef, t.getD 33 undef, t.getD 34 undef, t.getD 35 undef, t.getD 36 undef, t.getD 37 undef, t.getD 38 undef, t.getD 39 undef, t.getD 40 undef, t.getD 41 undef, t.getD 42 undef, t.getD 43 undef, t.getD 44 undef, t.getD 45 undef, t.getD 46 undef, t.getD 47 undef, t.getD 48 undef, t.getD 49 undef, t.getD 50 undef, t.getD 51 undef, t.getD 52 undef, t.getD 53 undef, t.getD 54 undef, t.getD 55 undef, t.getD 56 undef, t.getD 57 undef, t.getD 58 undef, t.getD 59 undef, t.getD 60 undef, t.getD 61 undef, t.getD 62 undef, t.getD 63 undef, t.getD 64 undef, t.getD 65 undef, t.getD 66 undef, t.getD 67 undef, t.getD 68 undef, t.getD 69 undef, t.getD 70 undef, t.getD 71 undef, t.getD 72 undef, t.getD 73 undef, t.getD 74 undef, t.getD 75 undef, t.getD 76 undef, t.getD 77 undef, t.getD 78 undef, t.getD 79 undef, t.getD 80 undef, t.getD 81 undef, t.getD 82 undef, t.getD 83 undef, t.getD 84 undef, t.getD 85 undef, t.getD 86 undef, t.getD 87 undef, t.getD 88 undef, t.getD 89 undef, t.getD 90 undef, t.getD 91 undef, t.getD 92 undef, t.getD 93 undef, t.getD 94 undef, t.getD 95 undef, t.getD 96 undef, t.getD 97 undef, t.getD 98 undef, t.getD 99 undef, t.getD 100 undef, t.getD 101 undef, t.getD 102 undef, t.getD 103 undef, t.getD 104 undef, t.getD 105 undef, t.getD 106 undef, t.getD 107 undef, t.getD 108 undef, t.getD 109 undef, t.getD 110 undef, t.getD 111 undef, t.getD 112 undef, t.getD 113 undef, t.getD 114 undef, t.getD 115 undef, t.getD 116 undef, t.getD 117 undef, t.getD 118 undef, t.getD 119 undef, t.getD 120 undef, t.getD 121 undef, t.getD 122 undef, t.getD 123 undef, t.getD 124 undef, t.getD 125 undef, t.getD 126 undef, t.getD 127 undef, t.getD 128 undef, t.getD 129 undef, t.getD 130 undef, t.getD 131 undef, t.getD 132 undef, t.getD 133 undef, t.getD 134 undef, t.getD 135 undef, t.getD 136 undef, t.getD 137 undef, t.getD 138 undef, t.getD 139 undef, t.getD 140 undef, t.getD 141 undef, t.getD 142 undef, t.getD 143 undef, t.getD 144 undef, t.getD 145 undef, t.getD 146 undef, t.getD 147 undef, t.getD 148 undef, t.getD 149 undef, t.getD 150 undef, t.getD 151 undef, t.getD 152 undef, t.getD 153 undef, t.getD 154 undef, t.getD 155 undef, t.getD 156 undef, t.getD 157 undef, t.getD 158 undef, t.getD 159 undef, t.getD 160 undef, t.getD 161 undef, t.getD 162 undef, t.getD 163 undef, t.getD 164 undef, t.getD 165 undef, t.getD 166 undef, t.getD 167 undef, t.getD 168 undef, t.getD 169 undef, t.getD 170 undef, t.getD 171 undef, t.getD 172 undef, t.getD 173 undef, t.getD 174 undef, t.getD 175 undef, t.getD 176 undef, t.getD 177 undef, t.getD 178 undef, t.getD 179 undef, t.getD 180 undef, t.getD 181 undef, t.getD 182 undef, t.getD 183 undef, t.getD 184 undef, t.getD 185 undef, t.getD 186 undef, t.getD 187 undef, t.getD 188 undef, t.getD 189 undef, t.getD 190 undef, t.getD 191 undef, t.getD 192 undef, t.getD 193 undef, t.getD 194 undef, t.getD 195 undef, t.getD 196 undef, t.getD 197 undef, t.getD 198 undef, t.getD 199 undef, t.getD 200 undef, t.getD 201 undef, t.getD 202 undef, t.getD 203 undef, t.getD 204 undef, t.getD 205 undef, t.getD 206 undef, t.getD 207 undef, t.getD 208 undef] := by rfl
 rw [← e2, ← he]
set_option maxRecDepth 100000 in
theorem frame_fix (a : Act) (uA : Nat → Value) (h : a.tmps.size = 209) (hd : a.defers = []) (hf : (a.tmps.getD 1 undef = uA 1 ∧ a.tmps.getD 7 undef = uA 7 ∧ a.tmps.getD 21 undef = uA 21 ∧ a.tmps.getD 22 undef = uA 22 ∧ a.tmps.getD 23 undef = uA 23 ∧ a.tmps.getD 24 undef = uA 24 ∧ a.tmps.getD 25 undef = uA 25 ∧ a.tmps.getD 26 undef = uA 26 ∧ a.tmps.getD 27 undef = uA 27 ∧ a.tmps.getD 28 undef = uA 28 ∧ a.tmps.getD 29 undef = uA 29 ∧ a.tmps.getD 30 undef = uA 30 ∧ a.tmps.getD 31 undef = uA 31 ∧ a.tmps.getD 32 undef = uA 32 ∧ a.tmps.getD 33 undef = uA 33 ∧ a.tmps.getD 34 undef = uA 34 ∧ a.tmps.getD 35 undef = uA 35 ∧ a.tmps.getD 36 undef = uA 36 ∧ a.tmps.getD 37 undef = uA 37 ∧ a.tmps.getD 38 undef = uA 38 ∧ a.tmps.getD 39 undef = uA 39 ∧ a.tmps.getD 40 undef = uA 40 ∧ a.tmps.getD 41 undef = uA 41 ∧ a.tmps.getD 42 undef = uA 42 ∧ a.tmps.getD 43 undef = uA 43 ∧ a.tmps.getD 197 undef = uA 197 ∧ a.tmps.getD 198 undef = uA 198 ∧ a.tmps.getD 199 undef = uA 199 ∧ a.tmps.getD 200 undef = uA 200 ∧ a.tmps.getD 201 undef = uA 201 ∧ a.tmps.getD 202 undef = uA 202 ∧ a.tmps.getD 203 undef = uA 203 ∧ a.tmps.getD 204 undef = uA 204 ∧ a.tmps.getD 205 undef = uA 205 ∧ a.tmps.getD 206 undef = uA 206 ∧ a.tmps.getD 207 undef = uA 207 ∧ a.tmps.getD 208 undef = uA 208)) : ∃ u : Nat → Value, (∀ i, u i = a.tmps.getD i undef) ∧ a = { tmps := #[u 0, uA 1, u 2, u 3, u 4, u 5, u 6, uA 7, u 8, u 9, u 10, u 11, u 12, u 13, u 14, u 15, u 16, u 17, u 18, u 19, u 20, uA 21, uA 22, uA 23, uA 24, uA 25, uA 26, uA 27, uA 28, uA 29, uA 30, uA 31, uA 32, uA 33, uA 34, uA 35, uA 36, uA 37, uA 38, uA 39, uA 40, uA 41, uA 42, uA 43, u 44, u 45, u 46, u 47, u 48, u 49, u 50, u 51, u 52, u 53, u 54, u 55, u 56, u 57, u 58, u 59, u 60, u 61, u 62, u 63, u 64, u 65, u 66, u 67, u 68, u 69, u 70, u 71, u 72, u 73, u 74, u 75, u 76, u 77, u 78, u 79, u 80, u 81, u 82, u 83, u 84, u 85, u 86, u 87, u 88, u 89, u 90, u 91, u 92, u 93, u 94, u 95, u 96, u 97, u 98, u 99, u 100, u 101, u 102, u 103, u 104, u 105, u 106, u 107, u 108, u 109, u 110, u 111, u 112, u 113, u 114, u 115, u 116, u 117, u 118, u 119, u 120, u 121, u 122, u 123, u 124, u 125, u 126, u 127, u 128, u 129, u 130, u 131, u 132, u 133, u 134, u 135, u 136, u 137, u 138, u 139, u 140, u 141, u 142, u 143, u 144, u 145, u 146, u 147, u 148, u 149, u 150, u 151, u 152, u 153, u 154, u 155, u 156, u 157, u 158, u 159, u 160, u 161, u 162, u 163, u 164, u 165, u 166, u 167, u 168, u 169, u 170, u 171, u 172, u 173, u 174, u 175, u 176, u 177, u 178, u 179, u 180, u 181, u 182, u 183, u 184, u 185, u 186, u 187, u 188, u 189, u 190, u 191, u 192, u 193, u 194, u 195, u 196, uA 197, uA 198, uA 199, uA 200, uA 201, uA 202, uA 203, uA 204, uA 205, uA 206, uA 207, uA 208], defers := [] } := by
 obtain ⟨u, hu, ha⟩ := frame_open a h hd;obtain ⟨f1, f7, f21, f22, f23, f24, f25, f26, f27, f28, f29, f30, f31, f32, f33, f34, f35, f36, f37, f38, f39, f40, f41, f42, f43, f197, f198, f199, f200, f201, f202, f203, f204, f205, f206, f207, f208⟩ := hf;refine ⟨u, hu, ?_⟩;have e1 : u 1 = uA 1 := (hu 1).trans f1;have e7 : u 7 = uA 7 := (hu 7).trans f7;have e21 : u 21 = uA 21 := (hu 21).trans f21;have e22 : u 22 = uA 22 := (hu 22).trans f22;have e23 : u 23 = uA 23 := (hu 23).trans f23;have e24 : u 24 = uA 24 := (hu 24).trans f24;have e25 : u 25 = uA 25 := (hu 25).trans f25;have e26 : u 26 = uA 26 := (hu 26).trans f26;have e27 : u 27 = uA 27 := (hu 27).trans f27;have e28 : u 28 = uA 28 := (hu 28).trans f28;have e29 : u 29 = uA 29 := (hu 29).trans f29;have e30 : u 30 = uA 30 := (hu 30).trans f30;have e31 : u 31 = uA 31 := (hu 31).trans f31;have e32 : u 32 = uA 32 := (hu 32).trans f32;have e33 : u 33 = uA 33 := (hu 33).trans f33;have e34 : u 34 = uA 34 := (hu 34).trans f34;have e35 : u 35 = uA 35 := (hu 35).trans f35;have e36 : u 36 = uA 36 := (hu 36).trans f36;have e37 : u 37 = uA 37 := (hu 37).trans f37;have e38 : u 38 = uA 38 := (hu 38).trans f38;have e39 : u 39 = uA 39 := (hu 39).trans f39;have e40 : u 40 = uA 40 := (hu 40).trans f40;have e41 : u 41 = uA 41 := (hu 41).trans f41;have e42 : u 42 = uA 42 := (hu 42).trans f42;have e43 : u 43 = uA 43 := (hu 43).trans f43;have e197 : u 197 = uA 197 := (hu 197).trans f197;have e198 : u 198 = uA 198 := (hu 198).trans f198;have e199 : u 199 = uA 199 := (hu 199).trans f199;have e200 : u 200 = uA 200 := (hu 200).trans f200;have e201 : u 201 = uA 201 := (hu 201).trans f201;have e202 : u 202 = uA 202 := (hu 202).trans f202;have e203 : u 203 = uA 203 := (hu 203).trans f203;have e204 : u 204 = uA 204 := (hu 204).trans f204;have e205 : u 205 = uA 205 := (hu 205).trans f205;have e206 : u 206 = uA 206 := (hu 206).trans f206;have e207 : u 207 = uA 207 := (hu 207).trans f207;have e208 : u 208 = uA 208 := (hu 208).trans f208;rw [ha];simp only [e1, e7, e21, e22, e23, e24, e25, e26, e27, e28, e29, e30, e31, e32, e33, e34, e35, e36, e37, e38, e39, e40, e41, e42, e43, e197, e198, e199, e200, e201, e202, e203, e204, e205, e206, e207, e208]
set_option maxRecDepth 100000 in
set_option maxHeartbeats 16000000 in
theorem parseDur_any (l : List UInt8) (hl : l.length ≤ 4294967296) (w : World) (hg : GE w) :
  Calls Tryz.prog 146 #[.string (ba l)] w fun e w' => DurAns (durF l) e ∧ Below w.heap.size w w' := by
 have HLI := Lib.hid (fun m hm w' hg' => leadInt_any m hm w' hg');have HLF := Lib.hid (fun m hm w' => leadFrac_any m hm w');have HUM := Lib.hid (fun w' => unitMap_any w');have HGE : Hid (∀ w' : World, Below w.heap.size w w' → GE w') := Lib.hid (fun w' hb => hg.below hb);clear hg;go_enter Tryz.func146, Tryz.ntmps146;go_upto_region 4 with fail
 rename_i K hK Kc hKc
 refine viaThen hK (fun a w' => w' = w ∧ a.tmps.size = 209 ∧ a.defers = [] ∧ a.tmps.getD 4 undef = .string (ba l) ∧ a.tmps.getD 5 undef = .int .u64 0 ∧ ∃ neg l1, signF l = (neg, l1) ∧ l1.length ≤ l.length ∧ a.tmps.getD 0 undef = .string (ba l1) ∧ a.tmps.getD 6 undef = .bool neg) ?_ ?_
 ·clear hK;rintro a wt ⟨hw, hs, hd, h4, h5, neg, l1, hsg, hl1, h0, h6⟩;subst hw;obtain ⟨u, hu, ha⟩ := frame_open a hs hd;rw [← hu] at h0 h4 h5 h6
  rw [h0, h4, h5, h6] at ha;clear hu hs hd h0 h4 h5 h6;subst ha;have HSG := Lib.hid hsg;clear hsg;by_cases h48 : l1 = [48]
  ·subst h48;have hq : (ba [48]).toList = [48] := by rw [toList_data, ba_list]
   have he : durF l = some 0 := by unfold durF; rw [HSG.out]; rfl
   go_wp2_with fail
   go_ret2;refine ⟨?_, Below.refl _ _⟩;rw [he];exact rfl
  ·have hq1 : ¬ (ba l1).toList = [48] := by rw [toList_data, ba_list]; exact h48
   have hq3 : ((ba l1).toList == [48]) = false := by rw [beq_eq_false_iff_ne]; exact hq1
   go_upto_region 11 with fail
   rename_i K1 hK1 Kc1 hKc1
   refine viaThen hK1 (fun a w' => wt = w' ∧ l1 ≠ [] ∧ a.tmps.size = 209 ∧ a.defers = [] ∧ a.tmps.getD 0 undef = .string (ba l1) ∧ a.tmps.getD 4 undef = .string (ba l) ∧ a.tmps.getD 5 undef = .int .u64 0 ∧ a.tmps.getD 6 undef = .bool neg) ?_ ?_;rotate_left
   ·intro HTb;clear hK1;by_cases hne : l1 = []
    ·subst hne;have hq : (ba []).toList = [] := by rw [toList_data, ba_list]
     have he : durF l = none := by unfold durF; rw [HSG.out]; rfl
     go_wp2_with fail
     go_ret2;refine ⟨?_, (Below.refl _ _).alloc (Nat.le_refl _) _⟩;rw [he];exact ⟨_, _, rfl⟩
    ·have hq2 : ¬ (ba l1).toList = [] := by rw [toList_data, ba_list]; exact hne
     have hq4 : (ba l1).toList.isEmpty = false := by rw [toList_data, ba_list]; simpa using hne
     go_wp2_with fail
     refine HTb.out _ _ ?_;exact ⟨rfl, hne, rfl, rfl, rfl, rfl, rfl, rfl⟩
   ·clear hK1 hq1 hq3;rintro a wtb ⟨hwb, hne, hs, hd, h0, h4, h5, h6⟩;subst hwb;obtain ⟨uA, hu, ha⟩ := frame_open a hs hd;rw [← hu] at h0 h4 h5 h6
    rw [h0, h4, h5, h6] at ha;clear hu hs hd h0 h4 h5 h6;subst ha;have HDU : Hid (durF l = finF neg (sumF l1.length 0 l1)) := Lib.hid (by unfold durF; rw [HSG.out]; simp only [if_neg h48, if_neg hne]);have HL1 := Lib.hid hl1;go_wp2_with fail
    clear HSG;go_loopw [0, 5] (fun v0 v5 wr => ∃ (d : Nat) (m : List UInt8), v0 = .string (ba m) ∧ v5 = .int .u64 d ∧ d ≤ 9223372036854775808 ∧ m.length ≤ l1.length ∧ Hid (sumF l1.length 0 l1 = sumF m.length d m) ∧ Hid (Below wt.heap.size wt wr)) (fun v0 _ _ => strD v0)
    case atStart => exact ⟨0, l1, rfl, rfl, by omega, Nat.le_refl _, Lib.hid rfl, Lib.hid (Below.refl _ _)⟩
    case round =>
     obtain ⟨d, m, rfl, rfl, hd63, hml, HSU, HBR⟩ := hrel;rcases m with _ | ⟨c, r⟩
     ·have hq : (ba []).toList = [] := by rw [toList_data, ba_list]
      have HFN : Hid (durF l = finF neg (some d)) := Lib.hid (by rw [HDU.out, HSU.out]; rfl);cases neg with
      | true =>
       by_cases hd63e : d = 9223372036854775808
       ·subst hd63e;have he : finF true (some 9223372036854775808) = some (-9223372036854775808) := rfl;have hw : wrap64 (-wrap64 9223372036854775808) = -9223372036854775808 := by unfold wrap64; omega
        go_wp2_with fail
        go_ret2;refine ⟨?_, HBR.out⟩;rw [HFN.out, he];show DurAns _ (.returned (.tuple #[.int .i64 (wrap64 (-wrap64 9223372036854775808)), .nilIface]))
        rw [hw];exact rfl
       ·have hw1 : IntKind.i64.wrap (d : Int) = (d : Int) := by rw [IntKind.wrap_i64]; omega
        have hw2 : wrap64 (-(d : Int)) = -(d : Int) := by unfold wrap64; omega
        have he : finF true (some d) = some (-(d : Int)) := by unfold finF; simp only [if_true, if_neg hd63e]
        go_wp2_with fail
        go_ret2;refine ⟨?_, HBR.out⟩;rw [HFN.out, he];exact rfl
      | false =>
       by_cases hbig : 9223372036854775807 < d
       ·have h1 : decide ((d : Int) > 9223372036854775807) = true := decide_eq_true (by omega);go_wp2_with fail
        go_ret2;refine ⟨?_, HBR.out.alloc HBR.out.size _⟩;have he : finF false (some d) = none := by show (if false = true then some (if d = 9223372036854775808 then -9223372036854775808 else -(d : Int)) else if 9223372036854775807 < d then none else some (d : Int)) = none; rw [if_neg (by simp), if_pos hbig]
        rw [HFN.out, he];exact ⟨_, _, rfl⟩
       ·have h1 : decide ((d : Int) > 9223372036854775807) = false := decide_eq_false (by omega);go_wp2_with fail
        go_ret2;refine ⟨?_, HBR.out⟩;have he : finF false (some d) = some (d : Int) := by show (if false = true then some (if d = 9223372036854775808 then -9223372036854775808 else -(d : Int)) else if 9223372036854775807 < d then none else some (d : Int)) = some (d : Int); rw [if_neg (by simp), if_neg hbig]
        rw [HFN.out, he];exact rfl
     ·have hq1 : ¬ (ba (c :: r)).toList = [] := by rw [toList_data, ba_list]; simp
      have hq2 : (ba (c :: r)).toList.isEmpty = false := by rw [toList_data, ba_list]; rfl
      have hix : ∀ w' : World, (Instr.index 9 (.string (ba (c :: r))) (.int .i64 0)).run Tryz.prog w' = .ok (.int .u8 (c.toNat : Nat)) w' := fun w' => str_at (c :: r) 0 (by simp) w'
      have hc256 : c.toNat < 256 := c.toNat_lt;go_upto_region 17 with fail
      rename_i K2 hK2 Kc2 hKc2
      refine viaThen hK2 (fun a w' => w' = wr ∧ (isD c || c == 46) = true ∧ (a.tmps.getD 1 undef = uA 1 ∧ a.tmps.getD 7 undef = uA 7 ∧ a.tmps.getD 21 undef = uA 21 ∧ a.tmps.getD 22 undef = uA 22 ∧ a.tmps.getD 23 undef = uA 23 ∧ a.tmps.getD 24 undef = uA 24 ∧ a.tmps.getD 25 undef = uA 25 ∧ a.tmps.getD 26 undef = uA 26 ∧ a.tmps.getD 27 undef = uA 27 ∧ a.tmps.getD 28 undef = uA 28 ∧ a.tmps.getD 29 undef = uA 29 ∧ a.tmps.getD 30 undef = uA 30 ∧ a.tmps.getD 31 undef = uA 31 ∧ a.tmps.getD 32 undef = uA 32 ∧ a.tmps.getD 33 undef = uA 33 ∧ a.tmps.getD 34 undef = uA 34 ∧ a.tmps.getD 35 undef = uA 35 ∧ a.tmps.getD 36 undef = uA 36 ∧ a.tmps.getD 37 undef = uA 37 ∧ a.tmps.getD 38 undef = uA 38 ∧ a.tmps.getD 39 undef = uA 39 ∧ a.tmps.getD 40 undef = uA 40 ∧ a.tmps.getD 41 undef = uA 41 ∧ a.tmps.getD 42 undef = uA 42 ∧ a.tmps.getD 43 undef = uA 43 ∧ a.tmps.getD 197 undef = uA 197 ∧ a.tmps.getD 198 undef = uA 198 ∧ a.tmps.getD 199 undef = uA 199 ∧ a.tmps.getD 200 undef = uA 200 ∧ a.tmps.getD 201 undef = uA 201 ∧ a.tmps.getD 202 undef = uA 202 ∧ a.tmps.getD 203 undef = uA 203 ∧ a.tmps.getD 204 undef = uA 204 ∧ a.tmps.getD 205 undef = uA 205 ∧ a.tmps.getD 206 undef = uA 206 ∧ a.tmps.getD 207 undef = uA 207 ∧ a.tmps.getD 208 undef = uA 208) ∧ a.tmps.size = 209 ∧ a.defers = [] ∧ a.tmps.getD 0 undef = .string (ba (c :: r)) ∧ a.tmps.getD 4 undef = .string (ba l) ∧ a.tmps.getD 5 undef = .int .u64 d ∧ a.tmps.getD 6 undef = .bool neg ∧ a.tmps.getD 8 undef = .int .u64 0 ∧ a.tmps.getD 9 undef = .int .u64 0 ∧ a.tmps.getD 10 undef = .float .f64 one64 ∧ a.tmps.getD 11 undef = .nilIface) ?_ ?_
      ·clear hK2;rintro a wt2 ⟨hw2, hcd, hfix, hs, hd, h0, h4, h5, h6, h8, h9, h10, h11⟩;subst hw2;obtain ⟨u, hu, ha⟩ := frame_fix a uA hs hd hfix;rw [← hu] at h0 h4 h5 h6 h8 h9 h10 h11
       rw [h0, h4, h5, h6, h8, h9, h10, h11] at ha;clear hu hs hd hfix h0 h4 h5 h6 h8 h9 h10 h11;subst ha;have HCD := Lib.hid hcd;obtain ⟨m, hm⟩ : ∃ m, m = c :: r := ⟨_, rfl⟩
       rw [← hm] at hq1 hq2 hix hml HSU
       have HMC := Lib.hid hm;have hmne : m ≠ [] := by rw [hm]; simp
       rw [← hm];clear hcd hm hq1 hq2 hix hc256;have hsm := ba_size m
       have HTF : Hid (∀ t, termF m = t → durF l = (match t with | none => none | some (n, r2) => if 9223372036854775808 < (d + n) % 18446744073709551616 then none else finF neg (sumF r2.length ((d + n) % 18446744073709551616) r2))) := Lib.hid (fun t ht => by
        rw [HDU.out, HSU.out, HMC.out];rw [HMC.out] at ht;rw [show (c :: r).length = r.length + 1 from rfl, sumF, ht];cases t with
        | none => rfl
        | some x =>
         obtain ⟨n, r2⟩ := x;dsimp only;by_cases hb : 9223372036854775808 < (d + n) % 18446744073709551616
         ·rw [if_pos hb, if_pos hb]; rfl
         ·rw [if_neg hb, if_neg hb];have := (termF_ok ht).2;rw [sumF_fuel r.length r2.length _ r2 (by simp only [List.length_cons] at this; omega) (Nat.le_refl _)])
       have HSF : Hid (∀ n r2, termF m = some (n, r2) → ¬ 9223372036854775808 < (d + n) % 18446744073709551616 → sumF l1.length 0 l1 = sumF r2.length ((d + n) % 18446744073709551616) r2 ∧ r2.length < m.length) := Lib.hid (fun n r2 ht hb => by
        rw [HSU.out, HMC.out];rw [HMC.out] at ht;have := (termF_ok ht).2;rw [show (c :: r).length = r.length + 1 from rfl, sumF, ht];dsimp only;rw [if_neg hb];exact ⟨sumF_fuel r.length r2.length _ r2 (by simp only [List.length_cons] at this; omega) (Nat.le_refl _), this⟩)
       go_wp2_with fail
       refine (HLI.out m (by have := HL1.out; omega) _ (HGE.out _ HBR.out)).mono ?_;rintro e w2 ⟨hans, hb2⟩;have HB2 := Lib.hid (below_of_le HBR.out hb2);clear hb2;obtain ⟨ld, hld⟩ : ∃ ld, leadI 0 m = ld := ⟨_, rfl⟩
       rw [hld] at hans;cases ld with
       | none =>
        obtain ⟨t, x, rfl⟩ := hans
        have hTN : termF m = none := by
         rw [HMC.out];unfold termF;dsimp only;rw [if_pos HCD.out, ← HMC.out, hld]
        have he := HTF.out none hTN;have HE := Lib.hid he;clear he hTN;go_wp2_with fail
        go_ret2;refine ⟨?_, HB2.out.alloc HB2.out.size _⟩;rw [HE.out];exact ⟨_, _, rfl⟩
       | some vr =>
        obtain ⟨v, r1⟩ := vr;obtain rfl : e = _ := hans;have hlv := leadI_le _ _ _ _ (by omega) hld;have hv63 := hlv.1;have hr1m := hlv.2;have HLD := Lib.hid hld;have hs1 := ba_size r1;clear hlv hld;go_upto_region 25 with fail
        rename_i K3 hK3 Kc3 hKc3
        refine viaThen hK3 (fun a w' => ∃ f s r2 post, fracF r1 = (f, s, r2, post) ∧ Below wt.heap.size wt w' ∧ (a.tmps.getD 1 undef = uA 1 ∧ a.tmps.getD 7 undef = uA 7 ∧ a.tmps.getD 21 undef = uA 21 ∧ a.tmps.getD 22 undef = uA 22 ∧ a.tmps.getD 23 undef = uA 23 ∧ a.tmps.getD 24 undef = uA 24 ∧ a.tmps.getD 25 undef = uA 25 ∧ a.tmps.getD 26 undef = uA 26 ∧ a.tmps.getD 27 undef = uA 27 ∧ a.tmps.getD 28 undef = uA 28 ∧ a.tmps.getD 29 undef = uA 29 ∧ a.tmps.getD 30 undef = uA 30 ∧ a.tmps.getD 31 undef = uA 31 ∧ a.tmps.getD 32 undef = uA 32 ∧ a.tmps.getD 33 undef = uA 33 ∧ a.tmps.getD 34 undef = uA 34 ∧ a.tmps.getD 35 undef = uA 35 ∧ a.tmps.getD 36 undef = uA 36 ∧ a.tmps.getD 37 undef = uA 37 ∧ a.tmps.getD 38 undef = uA 38 ∧ a.tmps.getD 39 undef = uA 39 ∧ a.tmps.getD 40 undef = uA 40 ∧ a.tmps.getD 41 undef = uA 41 ∧ a.tmps.getD 42 undef = uA 42 ∧ a.tmps.getD 43 undef = uA 43 ∧ a.tmps.getD 197 undef = uA 197 ∧ a.tmps.getD 198 undef = uA 198 ∧ a.tmps.getD 199 undef = uA 199 ∧ a.tmps.getD 200 undef = uA 200 ∧ a.tmps.getD 201 undef = uA 201 ∧ a.tmps.getD 202 undef = uA 202 ∧ a.tmps.getD 203 undef = uA 203 ∧ a.tmps.getD 204 undef = uA 204 ∧ a.tmps.getD 205 undef = uA 205 ∧ a.tmps.getD 206 undef = uA 206 ∧ a.tmps.getD 207 undef = uA 207 ∧ a.tmps.getD 208 undef = uA 208) ∧ a.tmps.size = 209 ∧ a.defers = [] ∧ a.tmps.getD 0 undef = .string (ba r2) ∧ a.tmps.getD 4 undef = .string (ba l) ∧ a.tmps.getD 5 undef = .int .u64 d ∧ a.tmps.getD 6 undef = .bool neg ∧ a.tmps.getD 8 undef = .int .u64 v ∧ a.tmps.getD 9 undef = .int .u64 f ∧ a.tmps.getD 10 undef = .float .f64 s ∧ a.tmps.getD 13 undef = .bool (!decide (m.length = r1.length)) ∧ a.tmps.getD 14 undef = .bool post) ?_ ?_
        ·clear hK3;rintro a wt3 ⟨f, s, r2, post, hff, hB3, hfix, hs, hd, h0, h4, h5, h6, h8, h9, h10, h13, h14⟩;obtain ⟨u, hu, ha⟩ := frame_fix a uA hs hd hfix;rw [← hu] at h0 h4 h5 h6 h8 h9 h10 h13 h14
         rw [h0, h4, h5, h6, h8, h9, h10, h13, h14] at ha;clear hu hs hd hfix h0 h4 h5 h6 h8 h9 h10 h13 h14;subst ha;have hfo := fracF_ok r1;rw [hff] at hfo;obtain ⟨hsc, hf63, hr2l⟩ := hfo;have HSC := Lib.hid hsc;have HB3 := Lib.hid hB3
         have HTM : Hid (termF m = if decide (m.length = r1.length) && !post then none else unitF v f s r2) := Lib.hid (by
          rw [HMC.out];unfold termF;dsimp only;rw [if_pos HCD.out, ← HMC.out, HLD.out];dsimp only;rw [hff])
         have hr2l := Lib.hid (show r2.length ≤ r1.length from hr2l);clear hsc hB3 hff;go_upto_region 30 with fail
         rename_i K4 hK4 Kc4 hKc4
         obtain ⟨pre, hpre⟩ : ∃ pre, decide (m.length = r1.length) = pre := ⟨_, rfl⟩
         rw [hpre] at HTM;rw [hpre];refine viaThen hK4 (fun a w' => w' = wt3 ∧ (pre && !post) = false ∧ (a.tmps.getD 1 undef = uA 1 ∧ a.tmps.getD 7 undef = uA 7 ∧ a.tmps.getD 21 undef = uA 21 ∧ a.tmps.getD 22 undef = uA 22 ∧ a.tmps.getD 23 undef = uA 23 ∧ a.tmps.getD 24 undef = uA 24 ∧ a.tmps.getD 25 undef = uA 25 ∧ a.tmps.getD 26 undef = uA 26 ∧ a.tmps.getD 27 undef = uA 27 ∧ a.tmps.getD 28 undef = uA 28 ∧ a.tmps.getD 29 undef = uA 29 ∧ a.tmps.getD 30 undef = uA 30 ∧ a.tmps.getD 31 undef = uA 31 ∧ a.tmps.getD 32 undef = uA 32 ∧ a.tmps.getD 33 undef = uA 33 ∧ a.tmps.getD 34 undef = uA 34 ∧ a.tmps.getD 35 undef = uA 35 ∧ a.tmps.getD 36 undef = uA 36 ∧ a.tmps.getD 37 undef = uA 37 ∧ a.tmps.getD 38 undef = uA 38 ∧ a.tmps.getD 39 undef = uA 39 ∧ a.tmps.getD 40 undef = uA 40 ∧ a.tmps.getD 41 undef = uA 41 ∧ a.tmps.getD 42 undef = uA 42 ∧ a.tmps.getD 43 undef = uA 43 ∧ a.tmps.getD 197 undef = uA 197 ∧ a.tmps.getD 198 undef = uA 198 ∧ a.tmps.getD 199 undef = uA 199 ∧ a.tmps.getD 200 undef = uA 200 ∧ a.tmps.getD 201 undef = uA 201 ∧ a.tmps.getD 202 undef = uA 202 ∧ a.tmps.getD 203 undef = uA 203 ∧ a.tmps.getD 204 undef = uA 204 ∧ a.tmps.getD 205 undef = uA 205 ∧ a.tmps.getD 206 undef = uA 206 ∧ a.tmps.getD 207 undef = uA 207 ∧ a.tmps.getD 208 undef = uA 208) ∧ a.tmps.size = 209 ∧ a.defers = [] ∧ a.tmps.getD 0 undef = .string (ba r2) ∧ a.tmps.getD 4 undef = .string (ba l) ∧ a.tmps.getD 5 undef = .int .u64 d ∧ a.tmps.getD 6 undef = .bool neg ∧ a.tmps.getD 8 undef = .int .u64 v ∧ a.tmps.getD 9 undef = .int .u64 f ∧ a.tmps.getD 10 undef = .float .f64 s) ?_ ?_
         ·clear hK4;rintro a wt4 ⟨hw4, hpp, hfix, hs, hd, h0, h4, h5, h6, h8, h9, h10⟩;subst hw4;obtain ⟨u, hu, ha⟩ := frame_fix a uA hs hd hfix;rw [← hu] at h0 h4 h5 h6 h8 h9 h10
          rw [h0, h4, h5, h6, h8, h9, h10] at ha;clear hu hs hd hfix h0 h4 h5 h6 h8 h9 h10;subst ha;have HTM2 : Hid (termF m = unitF v f s r2) := Lib.hid (by rw [HTM.out, hpp]; rfl);have hs2 := ba_size r2;have hr2s : r2.length ≤ 4294967296 := by have := hr2l.out; have := HL1.out; omega
          clear HTM hpp hpre;go_wp2_with fail
          rename_i K5 hK5
          refine viaThen hK5 (fun a w' => w' = wt4 ∧ ∃ i : Nat, i ≤ r2.length ∧ (r2.takeWhile isU = r2.take i ∧ r2.dropWhile isU = r2.drop i) ∧ (a.tmps.getD 1 undef = uA 1 ∧ a.tmps.getD 7 undef = uA 7 ∧ a.tmps.getD 21 undef = uA 21 ∧ a.tmps.getD 22 undef = uA 22 ∧ a.tmps.getD 23 undef = uA 23 ∧ a.tmps.getD 24 undef = uA 24 ∧ a.tmps.getD 25 undef = uA 25 ∧ a.tmps.getD 26 undef = uA 26 ∧ a.tmps.getD 27 undef = uA 27 ∧ a.tmps.getD 28 undef = uA 28 ∧ a.tmps.getD 29 undef = uA 29 ∧ a.tmps.getD 30 undef = uA 30 ∧ a.tmps.getD 31 undef = uA 31 ∧ a.tmps.getD 32 undef = uA 32 ∧ a.tmps.getD 33 undef = uA 33 ∧ a.tmps.getD 34 undef = uA 34 ∧ a.tmps.getD 35 undef = uA 35 ∧ a.tmps.getD 36 undef = uA 36 ∧ a.tmps.getD 37 undef = uA 37 ∧ a.tmps.getD 38 undef = uA 38 ∧ a.tmps.getD 39 undef = uA 39 ∧ a.tmps.getD 40 undef = uA 40 ∧ a.tmps.getD 41 undef = uA 41 ∧ a.tmps.getD 42 undef = uA 42 ∧ a.tmps.getD 43 undef = uA 43 ∧ a.tmps.getD 197 undef = uA 197 ∧ a.tmps.getD 198 undef = uA 198 ∧ a.tmps.getD 199 undef = uA 199 ∧ a.tmps.getD 200 undef = uA 200 ∧ a.tmps.getD 201 undef = uA 201 ∧ a.tmps.getD 202 undef = uA 202 ∧ a.tmps.getD 203 undef = uA 203 ∧ a.tmps.getD 204 undef = uA 204 ∧ a.tmps.getD 205 undef = uA 205 ∧ a.tmps.getD 206 undef = uA 206 ∧ a.tmps.getD 207 undef = uA 207 ∧ a.tmps.getD 208 undef = uA 208) ∧ a.tmps.size = 209 ∧ a.defers = [] ∧ a.tmps.getD 0 undef = .string (ba r2) ∧ a.tmps.getD 4 undef = .string (ba l) ∧ a.tmps.getD 5 undef = .int .u64 d ∧ a.tmps.getD 6 undef = .bool neg ∧ a.tmps.getD 8 undef = .int .u64 v ∧ a.tmps.getD 9 undef = .int .u64 f ∧ a.tmps.getD 10 undef = .float .f64 s ∧ a.tmps.getD 16 undef = .int .i64 i) ?_ ?_
          ·clear hK5;rintro a wt5 ⟨hw5, i, hi, htd, hfix, hs, hd, h0, h4, h5, h6, h8, h9, h10, h16⟩;subst hw5;obtain ⟨u, hu, ha⟩ := frame_fix a uA hs hd hfix;rw [← hu] at h0 h4 h5 h6 h8 h9 h10 h16
           rw [h0, h4, h5, h6, h8, h9, h10, h16] at ha;clear hu hs hd hfix h0 h4 h5 h6 h8 h9 h10 h16;subst ha;obtain ⟨htw, hdw⟩ := htd
           have HUF : Hid (termF m = (if r2.take i = [] then none else match unitN (r2.take i) with
             | none => none
             | some n => if 9223372036854775808 / n < v then none else if 0 < f then (if 9223372036854775808 < v * n + fracN f s n then none else some (v * n + fracN f s n, r2.drop i)) else some (v * n, r2.drop i))) := Lib.hid (by rw [HTM2.out]; unfold unitF; rw [htw, hdw]; first | rfl | (cases unitN (r2.take i) <;> rfl))
           clear htw hdw HTM2;by_cases hi0 : i = 0
           ·subst hi0;have he := HTF.out none (by rw [HUF.out]; rfl);have HE := Lib.hid he;clear he;go_wp2_with fail
            go_ret2;refine ⟨?_, HB3.out.alloc HB3.out.size _⟩;rw [HE.out];exact ⟨_, _, rfl⟩
           ·have hc1 : (((i : Nat) : Int) == 0) = false := by rw [beq_eq_false_iff_ne]; omega
            have hto := str_to r2 i hi;have hfrom := str_from r2 i hi;have htl : (r2.take i).length = i := by rw [List.length_take]; omega
            have htne : ¬ r2.take i = [] := fun e => by rw [e] at htl; simp at htl; omega
            have HTNE := Lib.hid htne;have hst := ba_size (r2.take i);rw [htl] at hst;clear htne htl;go_wp2_with fail
            refine (HUM.out _).mono ?_;rintro e w5 ⟨mr, rfl, hM, hb5⟩;have HB5 := Lib.hid (below_of_le HB3.out hb5);have hlk := run_lookup_unit w5 mr unitsL (ba (r2.take i)) hM;rw [unit_look] at hlk;clear hb5 hM;obtain ⟨un, hun⟩ : ∃ un, unitN (r2.take i) = un := ⟨_, rfl⟩
            rw [hun] at hlk HUF
            have HUN := Lib.hid hun;clear hun;cases un with
            | none =>
             have he := HTF.out none (by rw [HUF.out, if_neg HTNE.out]);have HE := Lib.hid he;clear he;simp only [Option.map_none, Option.getD_none, Option.isSome_none] at hlk;have hi32 : i ≤ 4294967296 := by omega
             go_wp2_with fail
             go_ret2;refine ⟨?_, HB5.out.alloc HB5.out.size _⟩;rw [HE.out];exact ⟨_, _, rfl⟩
            | some n =>
             simp only [Option.map_some, Option.getD_some, Option.isSome_some] at hlk;obtain ⟨hn1, hn36⟩ := unit_le HUN.out;have hn0 : (((n : Nat) : Int) == 0) = false := by rw [beq_eq_false_iff_ne]; omega
             have hdiv : Int.tdiv 9223372036854775808 (n : Int) = ((9223372036854775808 / n : Nat) : Int) := by rw [Int.tdiv_eq_ediv_of_nonneg (by omega), Int.natCast_ediv]; rfl
             obtain ⟨qn, hqn⟩ : ∃ qn, 9223372036854775808 / n = qn := ⟨_, rfl⟩
             have hUF := HUF.out;rw [if_neg HTNE.out] at hUF;dsimp only at hUF;rw [hqn] at hdiv hUF
             have HQN := Lib.hid hqn;have hqb : qn ≤ 9223372036854775808 := by rw [← hqn]; exact Nat.div_le_self _ _
             clear hqn HUF;by_cases hvq : qn < v
             ·have h1 : decide ((v : Int) > (qn : Int)) = true := decide_eq_true (by omega);have he := HTF.out none (by rw [hUF, if_pos hvq]);have HE := Lib.hid he;clear he hUF;go_wp2_with fail
              go_ret2;refine ⟨?_, HB5.out.alloc HB5.out.size _⟩;rw [HE.out];exact ⟨_, _, rfl⟩
             ·have h1 : decide ((v : Int) > (qn : Int)) = false := decide_eq_false (by omega);rw [if_neg hvq] at hUF;obtain ⟨vm, hvm⟩ : ∃ vm, v * n = vm := ⟨_, rfl⟩
              have hvmi : (v : Int) * (n : Int) = (vm : Int) := by rw [← hvm]; push_cast; rfl
              have hvm63 : vm ≤ 9223372036854775808 := by
               rw [← hvm]
               calc v * n ≤ 9223372036854775808 / n * n := Nat.mul_le_mul_right _ (by rw [HQN.out]; omega)
                _ ≤ 9223372036854775808 := Nat.div_mul_le_self _ _
              rw [hvm] at hUF;clear hvm;by_cases hf0 : f = 0
              ·subst hf0;rw [if_neg (by omega)] at hUF;have HUF := Lib.hid hUF;have h2 : decide (((0 : Nat) : Int) > 0) = false := rfl;clear hUF;obtain ⟨V, hV⟩ : ∃ V, V = vm := ⟨_, rfl⟩
               have hVi : (vm : Int) = (V : Int) := by rw [hV]
               have hV63 : V ≤ 9223372036854775808 := by omega
               rw [← hV] at HUF;clear hV;by_cases h64 : d + V = 18446744073709551616
               ·have hm0 : (d + V) % 18446744073709551616 = 0 := by rw [h64]
                have hstep := HSF.out V _ HUF.out (by rw [hm0]; omega);rw [hm0] at hstep;have HST := Lib.hid hstep;have hsum : (d : Int) + (V : Int) = 18446744073709551616 := by omega
                clear hstep;go_wp2_with fail
                go_roundw
                case rel => exact ⟨0, r2.drop i, rfl, by go_num, by omega, by have := HST.out.2; omega, Lib.hid HST.out.1, HB5⟩
                case measure => have := HST.out.2; show (ba (r2.drop i)).size < (ba (c :: r)).size; rw [ba_size, ba_size, ← HMC.out]; exact this
               ·have hmm : (d + V) % 18446744073709551616 = d + V := Nat.mod_eq_of_lt (by omega);by_cases hbig : 9223372036854775808 < d + V
                ·have h4 : decide ((d : Int) + (V : Int) > 9223372036854775808) = true := decide_eq_true (by omega);have he := HTF.out _ HUF.out;dsimp only at he;rw [hmm, if_pos hbig] at he;have HE := Lib.hid he;clear he;go_wp2_with fail
                 go_ret2;refine ⟨?_, HB5.out.alloc HB5.out.size _⟩;rw [HE.out];exact ⟨_, _, rfl⟩
                ·have h4 : decide ((d : Int) + (V : Int) > 9223372036854775808) = false := decide_eq_false (by omega);have hstep := HSF.out V _ HUF.out (by rw [hmm]; exact hbig);rw [hmm] at hstep;have HST := Lib.hid hstep;clear hstep;go_wp2_with fail
                 go_roundw
                 case rel => exact ⟨d + V, r2.drop i, rfl, by go_num, by omega, by have := HST.out.2; omega, Lib.hid HST.out.1, HB5⟩
                 case measure => have := HST.out.2; show (ba (r2.drop i)).size < (ba (c :: r)).size; rw [ba_size, ba_size, ← HMC.out]; exact this
              ·rw [if_pos (by omega)] at hUF;have h2 : decide ((f : Int) > 0) = true := decide_eq_true (by omega);obtain ⟨fq, fm, fi, fr63⟩ := frac_ok HSC.out hf63 hn36;obtain ⟨fr, hfr⟩ : ∃ fr, fracN f s n = fr := ⟨_, rfl⟩
               rw [hfr] at hUF fi fr63
               have hcf : ∀ w' : World, (convert 24 290 (.int .u64 (f : Nat))).run Tryz.prog w' = .ok (.float .f64 (Flo.fl f)) w' := fun w' => run_convert_int_float w' _ _ .u64 .f64 _ (by kernel_rfl) Tryz.underlying290
               have hcn : ∀ w' : World, (convert 24 290 (.int .u64 (n : Nat))).run Tryz.prog w' = .ok (.float .f64 (Flo.fl n)) w' := fun w' => run_convert_int_float w' _ _ .u64 .f64 _ (by kernel_rfl) Tryz.underlying290
               have hq : ∀ w' : World, (binOp .quo 290 (.float .f64 (Flo.fl n)) (.float .f64 s)).run Tryz.prog w' = .ok (.float .f64 (quoW n s)) w' := fun w' => run_floatArith w' fq
               have hm : ∀ w' : World, (binOp .mul 290 (.float .f64 (Flo.fl f)) (.float .f64 (quoW n s))).run Tryz.prog w' = .ok (.float .f64 (mulW f n s)) w' := fun w' => run_floatArith w' fm
               have hci : ∀ w' : World, (convert 290 24 (.float .f64 (mulW f n s))).run Tryz.prog w' = .ok (.int .u64 (fr : Nat)) w' := fun w' => run_convert_float_int w' _ _ .f64 .u64 _ _ (by kernel_rfl) Tryz.underlying24 fi
               by_cases hv2 : 9223372036854775808 < vm + fr
               ·rw [if_pos hv2] at hUF;have he := HTF.out none hUF;have HE := Lib.hid he;clear he hUF fq fm fi hfr;have h3 : decide ((vm : Int) + (fr : Int) > 9223372036854775808) = true := decide_eq_true (by omega);go_wp2_with fail
                go_ret2;refine ⟨?_, HB5.out.alloc HB5.out.size _⟩;rw [HE.out];exact ⟨_, _, rfl⟩
               ·rw [if_neg hv2] at hUF;have HUF := Lib.hid hUF;clear hUF fq fm fi hfr;have h3 : decide ((vm : Int) + (fr : Int) > 9223372036854775808) = false := decide_eq_false (by omega);obtain ⟨V, hV⟩ : ∃ V, V = vm + fr := ⟨_, rfl⟩
                have hVi : (vm : Int) + (fr : Int) = (V : Int) := by rw [hV]; push_cast; rfl
                have hV63 : V ≤ 9223372036854775808 := by omega
                rw [← hV] at HUF;clear hV;by_cases h64 : d + V = 18446744073709551616
                ·have hm0 : (d + V) % 18446744073709551616 = 0 := by rw [h64]
                 have hstep := HSF.out V _ HUF.out (by rw [hm0]; omega);rw [hm0] at hstep;have HST := Lib.hid hstep;have hsum : (d : Int) + (V : Int) = 18446744073709551616 := by omega
                 clear hstep;go_wp2_with fail
                 go_roundw
                 case rel => exact ⟨0, r2.drop i, rfl, by go_num, by omega, by have := HST.out.2; omega, Lib.hid HST.out.1, HB5⟩
                 case measure => have := HST.out.2; show (ba (r2.drop i)).size < (ba (c :: r)).size; rw [ba_size, ba_size, ← HMC.out]; exact this
                ·have hmm : (d + V) % 18446744073709551616 = d + V := Nat.mod_eq_of_lt (by omega);by_cases hbig : 9223372036854775808 < d + V
                 ·have h4 : decide ((d : Int) + (V : Int) > 9223372036854775808) = true := decide_eq_true (by omega);have he := HTF.out _ HUF.out;dsimp only at he;rw [hmm, if_pos hbig] at he;have HE := Lib.hid he;clear he;go_wp2_with fail
                  go_ret2;refine ⟨?_, HB5.out.alloc HB5.out.size _⟩;rw [HE.out];exact ⟨_, _, rfl⟩
                 ·have h4 : decide ((d : Int) + (V : Int) > 9223372036854775808) = false := decide_eq_false (by omega);have hstep := HSF.out V _ HUF.out (by rw [hmm]; exact hbig);rw [hmm] at hstep;have HST := Lib.hid hstep;clear hstep;go_wp2_with fail
                  go_roundw
                  case rel => exact ⟨d + V, r2.drop i, rfl, by go_num, by omega, by have := HST.out.2; omega, Lib.hid HST.out.1, HB5⟩
                  case measure => have := HST.out.2; show (ba (r2.drop i)).size < (ba (c :: r)).size; rw [ba_size, ba_size, ← HMC.out]; exact this
          ·intro HT4;clear hK5;go_loopw [16] (fun v16 wr => ∃ i : Nat, v16 = .int .i64 i ∧ i ≤ r2.length ∧ Hid (∀ x ∈ r2.take i, isU x = true) ∧ wr = wt4) (fun v16 _ => r2.length - (intOf v16).toNat)
           case atStart => exact ⟨0, rfl, by omega, Lib.hid (by simp), rfl⟩
           case round =>
            obtain ⟨i, rfl, hi, HU, hwr⟩ := hrel;have hwr' := hwr.symm;clear hwr;subst hwr';by_cases hir : i < r2.length
            ·have hidx := str_at r2 i hir;have hdrop := List.drop_eq_getElem_cons hir;have htk : r2.take (i + 1) = r2.take i ++ [r2[i]] := by rw [List.take_add_one, List.getElem?_eq_getElem hir]; rfl
             obtain ⟨cu, hcu⟩ : ∃ cu, cu = r2[i] := ⟨_, rfl⟩
             rw [← hcu] at hidx hdrop htk
             have HDR := Lib.hid hdrop;have HTK := Lib.hid htk;have hd1 : decide ((i : Int) < (r2.length : Nat)) = true := decide_eq_true (by omega);have hc256 : cu.toNat < 256 := cu.toNat_lt;clear hdrop htk hcu;by_cases h46 : cu = 46
             ·have hc1 : (((cu.toNat : Nat) : Int) == 46) = true := by rw [h46]; rfl
              have hnu : isU cu = false := by rw [h46]; decide
              go_wp2_with fail
              refine HT4.out _ _ ?_;exact ⟨rfl, i, hi, tw_is HU.out (.inr ⟨cu, _, HDR.out, hnu⟩), ⟨rfl, rfl, rfl, rfl, rfl, rfl, rfl, rfl, rfl, rfl, rfl, rfl, rfl, rfl, rfl, rfl, rfl, rfl, rfl, rfl, rfl, rfl, rfl, rfl, rfl, rfl, rfl, rfl, rfl, rfl, rfl, rfl, rfl, rfl, rfl, rfl, rfl⟩, rfl, rfl, rfl, rfl, rfl, rfl, rfl, rfl, rfl, rfl⟩
             ·have hn46 : cu.toNat ≠ 46 := fun e => h46 (UInt8.toNat_inj.1 e)
              have hc1 : (((cu.toNat : Nat) : Int) == 46) = false := by rw [beq_eq_false_iff_ne]; omega
              by_cases h48c : 48 ≤ cu.toNat
              ·have h1 : decide ((48 : Int) ≤ cu.toNat) = true := decide_eq_true (by omega);by_cases h57 : cu.toNat ≤ 57
               ·have h2 : decide ((cu.toNat : Int) ≤ 57) = true := decide_eq_true (by omega);have hnu : isU cu = false := by unfold isU; rw [isD_iff.2 ⟨h48c, h57⟩]; rfl
                go_wp2_with fail
                refine HT4.out _ _ ?_;exact ⟨rfl, i, hi, tw_is HU.out (.inr ⟨cu, _, HDR.out, hnu⟩), ⟨rfl, rfl, rfl, rfl, rfl, rfl, rfl, rfl, rfl, rfl, rfl, rfl, rfl, rfl, rfl, rfl, rfl, rfl, rfl, rfl, rfl, rfl, rfl, rfl, rfl, rfl, rfl, rfl, rfl, rfl, rfl, rfl, rfl, rfl, rfl, rfl, rfl⟩, rfl, rfl, rfl, rfl, rfl, rfl, rfl, rfl, rfl, rfl⟩
               ·have h2 : decide ((cu.toNat : Int) ≤ 57) = false := decide_eq_false (by omega);have hu : isU cu = true := by unfold isU isD; rw [decide_eq_false h57, Bool.and_false, Bool.false_or, beq_eq_false_iff_ne.2 h46]; rfl
                go_wp2_with fail
                go_roundw
                case rel => exact ⟨i + 1, by go_num, by omega, Lib.hid (by rw [HTK.out]; intro x hx; rcases List.mem_append.1 hx with hx | hx; exact HU.out x hx; rw [List.mem_singleton.1 hx]; exact hu), trivial⟩
                case measure => simp [intOf]; omega
              ·have h1 : decide ((48 : Int) ≤ cu.toNat) = false := decide_eq_false (by omega);have hu : isU cu = true := by unfold isU isD; rw [decide_eq_false h48c, Bool.false_and, Bool.false_or, beq_eq_false_iff_ne.2 h46]; rfl
               go_wp2_with fail
               go_roundw
               case rel => exact ⟨i + 1, by go_num, by omega, Lib.hid (by rw [HTK.out]; intro x hx; rcases List.mem_append.1 hx with hx | hx; exact HU.out x hx; rw [List.mem_singleton.1 hx]; exact hu), trivial⟩
               case measure => simp [intOf]; omega
            ·have hd1 : decide ((i : Int) < (r2.length : Nat)) = false := decide_eq_false (by omega);go_wp2_with fail
             refine HT4.out _ _ ?_;exact ⟨rfl, i, hi, tw_is HU.out (.inl (List.drop_eq_nil_of_le (by omega))), ⟨rfl, rfl, rfl, rfl, rfl, rfl, rfl, rfl, rfl, rfl, rfl, rfl, rfl, rfl, rfl, rfl, rfl, rfl, rfl, rfl, rfl, rfl, rfl, rfl, rfl, rfl, rfl, rfl, rfl, rfl, rfl, rfl, rfl, rfl, rfl, rfl, rfl⟩, rfl, rfl, rfl, rfl, rfl, rfl, rfl, rfl, rfl, rfl⟩
         ·intro HT3;clear hK4;cases pre with
          | false =>
           go_wp2_with fail
           refine HT3.out _ _ ?_;exact ⟨rfl, rfl, ⟨rfl, rfl, rfl, rfl, rfl, rfl, rfl, rfl, rfl, rfl, rfl, rfl, rfl, rfl, rfl, rfl, rfl, rfl, rfl, rfl, rfl, rfl, rfl, rfl, rfl, rfl, rfl, rfl, rfl, rfl, rfl, rfl, rfl, rfl, rfl, rfl, rfl⟩, rfl, rfl, rfl, rfl, rfl, rfl, rfl, rfl, rfl⟩
          | true =>
           cases post with
           | true =>
            go_wp2_with fail
            refine HT3.out _ _ ?_;exact ⟨rfl, rfl, ⟨rfl, rfl, rfl, rfl, rfl, rfl, rfl, rfl, rfl, rfl, rfl, rfl, rfl, rfl, rfl, rfl, rfl, rfl, rfl, rfl, rfl, rfl, rfl, rfl, rfl, rfl, rfl, rfl, rfl, rfl, rfl, rfl, rfl, rfl, rfl, rfl, rfl⟩, rfl, rfl, rfl, rfl, rfl, rfl, rfl, rfl, rfl⟩
           | false =>
            have he := HTF.out none (by rw [HTM.out]; rfl);have HE := Lib.hid he;clear he;go_wp2_with fail
            go_ret2;refine ⟨?_, HB3.out.alloc HB3.out.size _⟩;rw [HE.out];exact ⟨_, _, rfl⟩
        ·intro HT2;clear hK3
         have hpre : (((m.length : Nat) : Int) != ((r1.length : Nat) : Int)) = !decide (m.length = r1.length) := by
          by_cases e : m.length = r1.length
          ·rw [e]; simp
          ·rw [decide_eq_false e, bne_iff_ne.2 (by omega)]; rfl
         rcases r1 with _ | ⟨c1, t1⟩
         ·have hq1 : (ba []).toList = [] := by rw [toList_data, ba_list]
          go_wp2_with fail
          refine HT2.out _ _ ?_;exact ⟨0, one64, [], false, rfl, HB2.out, ⟨rfl, rfl, rfl, rfl, rfl, rfl, rfl, rfl, rfl, rfl, rfl, rfl, rfl, rfl, rfl, rfl, rfl, rfl, rfl, rfl, rfl, rfl, rfl, rfl, rfl, rfl, rfl, rfl, rfl, rfl, rfl, rfl, rfl, rfl, rfl, rfl, rfl⟩, rfl, rfl, rfl, rfl, rfl, rfl, rfl, rfl, rfl, congrArg Value.bool hpre, rfl⟩
         ·have hq1 : ¬ (ba (c1 :: t1)).toList = [] := by rw [toList_data, ba_list]; simp
          have hq2 : (ba (c1 :: t1)).toList.isEmpty = false := by rw [toList_data, ba_list]; rfl
          have hix : ∀ w' : World, (Instr.index 9 (.string (ba (c1 :: t1))) (.int .i64 0)).run Tryz.prog w' = .ok (.int .u8 (c1.toNat : Nat)) w' := fun w' => str_at (c1 :: t1) 0 (by simp) w'
          have hfr : ∀ w' : World, (Instr.slice 9 (.string (ba (c1 :: t1))) (some (.int .i64 1)) none none).run Tryz.prog w' = .ok (.string (ba t1)) w' := fun w' => str_from (c1 :: t1) 1 (by simp) w'
          have hc256 : c1.toNat < 256 := c1.toNat_lt;by_cases h46 : c1 = 46
          ·subst h46;have hc1 : ((((46 : UInt8).toNat : Nat) : Int) == 46) = true := rfl;have hst := ba_size t1;go_wp2_with fail
           refine (HLF.out t1 (by have := HL1.out; simp only [List.length_cons] at hr1m; omega) _).mono ?_;rintro e w3 ⟨hans3, hb3⟩;obtain ⟨f, s, r2, hf⟩ : ∃ f s r2, leadF 0 one64 false t1 = (f, s, r2) := ⟨_, _, _, rfl⟩
           rw [hf] at hans3;obtain rfl : e = .returned (.tuple #[.int .u64 (f : Nat), .float .f64 s, .string (ba r2)]) := hans3;have hsr := ba_size r2;have HFF : Hid (fracF (46 :: t1) = (f, s, r2, !decide (t1.length = r2.length))) := Lib.hid (by show ((leadF 0 one64 false t1).1, (leadF 0 one64 false t1).2.1, (leadF 0 one64 false t1).2.2, !decide (t1.length = (leadF 0 one64 false t1).2.2.length)) = _; rw [hf]);have HB3 := Lib.hid (below_of_le HB2.out hb3)
           have hpost : (((t1.length : Nat) : Int) != ((r2.length : Nat) : Int)) = !decide (t1.length = r2.length) := by
            by_cases e : t1.length = r2.length
            ·rw [e]; simp
            ·rw [decide_eq_false e, bne_iff_ne.2 (by omega)]; rfl
           clear hb3 hf;go_wp2_with fail
           refine HT2.out _ _ ?_;exact ⟨f, s, r2, _, HFF.out, HB3.out, ⟨rfl, rfl, rfl, rfl, rfl, rfl, rfl, rfl, rfl, rfl, rfl, rfl, rfl, rfl, rfl, rfl, rfl, rfl, rfl, rfl, rfl, rfl, rfl, rfl, rfl, rfl, rfl, rfl, rfl, rfl, rfl, rfl, rfl, rfl, rfl, rfl, rfl⟩, rfl, rfl, rfl, rfl, rfl, rfl, rfl, rfl, rfl, congrArg Value.bool hpre, by first | rfl | exact congrArg Value.bool hpost⟩
          ·have hn46 : c1.toNat ≠ 46 := fun e => h46 (UInt8.toNat_inj.1 e)
           have hc1 : (((c1.toNat : Nat) : Int) == 46) = false := by rw [beq_eq_false_iff_ne]; omega
           have hff : fracF (c1 :: t1) = (0, one64, c1 :: t1, false) := by
            unfold fracF;split
            ·rename_i e
             simp only [List.cons.injEq] at e;exact absurd e.1 h46
            ·rfl
           go_wp2_with fail
           refine HT2.out _ _ ?_;exact ⟨0, one64, c1 :: t1, false, hff, HB2.out, ⟨rfl, rfl, rfl, rfl, rfl, rfl, rfl, rfl, rfl, rfl, rfl, rfl, rfl, rfl, rfl, rfl, rfl, rfl, rfl, rfl, rfl, rfl, rfl, rfl, rfl, rfl, rfl, rfl, rfl, rfl, rfl, rfl, rfl, rfl, rfl, rfl, rfl⟩, rfl, rfl, rfl, rfl, rfl, rfl, rfl, rfl, rfl, congrArg Value.bool hpre, rfl⟩
      ·intro HT1;clear hK2;by_cases h46 : c = 46
       ·subst h46;have hc1 : ((((46 : UInt8).toNat : Nat) : Int) == 46) = true := rfl;go_wp2_with fail
        refine HT1.out _ _ ?_;exact ⟨rfl, rfl, ⟨rfl, rfl, rfl, rfl, rfl, rfl, rfl, rfl, rfl, rfl, rfl, rfl, rfl, rfl, rfl, rfl, rfl, rfl, rfl, rfl, rfl, rfl, rfl, rfl, rfl, rfl, rfl, rfl, rfl, rfl, rfl, rfl, rfl, rfl, rfl, rfl, rfl⟩, rfl, rfl, rfl, rfl, rfl, rfl, rfl, rfl, rfl, rfl⟩
       ·have hn46 : c.toNat ≠ 46 := fun e => h46 (UInt8.toNat_inj.1 e)
        have hc1 : (((c.toNat : Nat) : Int) == 46) = false := by rw [beq_eq_false_iff_ne]; omega
        by_cases hdg : isD c = true
        ·have hdn := isD_iff.1 hdg;have h1 : decide ((48 : Int) ≤ c.toNat) = true := decide_eq_true (by omega);have h2 : decide ((c.toNat : Int) ≤ 57) = true := decide_eq_true (by omega);go_wp2_with fail
         refine HT1.out _ _ ?_;exact ⟨rfl, by rw [hdg]; rfl, ⟨rfl, rfl, rfl, rfl, rfl, rfl, rfl, rfl, rfl, rfl, rfl, rfl, rfl, rfl, rfl, rfl, rfl, rfl, rfl, rfl, rfl, rfl, rfl, rfl, rfl, rfl, rfl, rfl, rfl, rfl, rfl, rfl, rfl, rfl, rfl, rfl, rfl⟩, rfl, rfl, rfl, rfl, rfl, rfl, rfl, rfl, rfl, rfl⟩
        ·have hno : (isD c || c == 46) = false := by
          rw [show isD c = false by simpa using hdg, Bool.false_or, beq_eq_false_iff_ne];exact h46
         have HTN : Hid (durF l = none) := Lib.hid (by
          rw [HDU.out, HSU.out];simp only [List.length_cons, sumF, termF, hno];rfl)
         by_cases h48c : 48 ≤ c.toNat
         ·have h57 : ¬ c.toNat ≤ 57 := fun h => hdg (isD_iff.2 ⟨h48c, h⟩)
          have h1 : decide ((48 : Int) ≤ c.toNat) = true := decide_eq_true (by omega);have h2 : decide ((c.toNat : Int) ≤ 57) = false := decide_eq_false (by omega);go_wp2_with fail
          go_ret2;refine ⟨?_, HBR.out.alloc HBR.out.size _⟩;rw [HTN.out];exact ⟨_, _, rfl⟩
         ·have h1 : decide ((48 : Int) ≤ c.toNat) = false := decide_eq_false (by omega);go_wp2_with fail
          go_ret2;refine ⟨?_, HBR.out.alloc HBR.out.size _⟩;rw [HTN.out];exact ⟨_, _, rfl⟩
 ·intro HT0;clear hK;rcases l with _ | ⟨c, r⟩
  ·have hq : (ba []).toList = [] := by rw [toList_data, ba_list]
   go_wp2_with fail
   refine HT0.out _ _ ?_;exact ⟨rfl, rfl, rfl, rfl, rfl, false, [], rfl, by simp, rfl, rfl⟩
  ·have hq1 : ¬ (ba (c :: r)).toList = [] := by rw [toList_data, ba_list]; simp
   have hq2 : (ba (c :: r)).toList.isEmpty = false := by rw [toList_data, ba_list]; rfl
   have hix : ∀ w' : World, (Instr.index 9 (.string (ba (c :: r))) (.int .i64 0)).run Tryz.prog w' = .ok (.int .u8 (c.toNat : Nat)) w' := fun w' => str_at (c :: r) 0 (by simp) w'
   have hfr : ∀ w' : World, (Instr.slice 9 (.string (ba (c :: r))) (some (.int .i64 1)) none none).run Tryz.prog w' = .ok (.string (ba r)) w' := fun w' => str_from (c :: r) 1 (by simp) w'
   by_cases h45 : c = 45
   ·subst h45;have hc1 : ((((45 : UInt8).toNat : Nat) : Int) == 45) = true := rfl;go_wp2_with fail
    refine HT0.out _ _ ?_;exact ⟨rfl, rfl, rfl, rfl, rfl, true, r, rfl, by simp, rfl, rfl⟩
   ·have hn45 : c.toNat ≠ 45 := fun e => h45 (UInt8.toNat_inj.1 e)
    have hc1 : (((c.toNat : Nat) : Int) == 45) = false := by rw [beq_eq_false_iff_ne]; omega
    by_cases h43 : c = 43
    ·subst h43;have hc2 : ((((43 : UInt8).toNat : Nat) : Int) == 43) = true := rfl;go_wp2_with fail
     refine HT0.out _ _ ?_;exact ⟨rfl, rfl, rfl, rfl, rfl, false, r, rfl, by simp, rfl, rfl⟩
    ·have hn43 : c.toNat ≠ 43 := fun e => h43 (UInt8.toNat_inj.1 e)
     have hc2 : (((c.toNat : Nat) : Int) == 43) = false := by rw [beq_eq_false_iff_ne]; omega
     have hsg : signF (c :: r) = (false, c :: r) := by
      unfold signF;split
      ·rename_i e
       simp only [List.cons.injEq] at e;exact absurd e.1 h45
      ·rename_i e
       simp only [List.cons.injEq] at e;exact absurd e.1 h43
      ·rfl
     go_wp2_with fail
     refine HT0.out _ _ ?_;exact ⟨rfl, rfl, rfl, rfl, rfl, false, c :: r, hsg, by simp, rfl, rfl⟩
end Go.Proofs.YtmecbmgfacpecaaGreatDoor.Cron
namespace Go.Proofs.YtmecbmgfacpecaaGreatDoor.Cron
open Go Go.RowKit Go.Proofs.YtmecbmgfacpecaaGreatDoor.Text Go.Proofs.YtmecbmgfacpecaaGreatDoor.Bits
def ErrAt (w w' : World) (g : Nat) (v : Value) : Prop := ∃ w1, Below w.heap.size w w1 ∧ w' = w1.setCell ⟨g, 0, none⟩ v
def ClosureAnswer (w : World) (g : Nat) (r : Option Nat) (e : Ending) (w' : World) : Prop :=
 match r with
 | some b => e = .returned (.int .u64 b) ∧ ErrAt w w' g .nilIface
 | none => ∃ (n : Int) (t : TypeId) (x : Value), e = .returned (.int .u64 n) ∧ ErrAt w w' g (.iface t x)
set_option maxRecDepth 100000 in
theorem closure_any (m : Option Nat) (val : List UInt8 → Option Nat) (Inv : World → Prop) (hR : Reads m val Inv) (lo hi : Nat) (s : ByteArray) (hs : s.size ≤ 4294967296) (h1 : lo ≤ hi) (h2 : hi ≤ 62) (g : Nat) (w : World) (hI : Inv w)
  (hg : g < w.heap.size) (hc : w.cell? ⟨g, 0, none⟩ = some .nilIface) (hf : w.frozen? ⟨g, 0, none⟩ = false) :
  Calls Tryz.prog 104 #[.string s, .agg #[.int .u64 lo, .int .u64 hi, .map m], .pointer (some ⟨g, 0, none⟩)] w (ClosureAnswer w g (fieldS val lo hi s.data.toList)) := by
 have hB0 : ∀ o, Below w.heap.size w (w.alloc o) := fun o => (Below.refl _ _).alloc (Nat.le_refl _) o
 have HC := Lib.hid (fun o => getFieldA m val Inv hR lo hi s hs h1 h2 (w.alloc o) (hR.keeps hI (hB0 o)));generalize fieldS val lo hi s.data.toList = r at *;go_enter Tryz.func104, Tryz.ntmps104;go_wp2_with fail
 refine (HC.out _).mono ?_;cases r with
 | some b =>
  rintro e w2 ⟨rfl, hb2⟩;have hB : Below w.heap.size w w2 := ((Below.refl _ _).alloc (Nat.le_refl _) _).trans (hb2.mono (by simp));have hc2 := (hB.cell (p := ⟨g, 0, none⟩) hg).trans hc;have hf2 := (hB.frozen (p := ⟨g, 0, none⟩) hg).trans hf;go_wp2_with fail
  go_ret;exact ⟨rfl, w2, hB, rfl⟩
 | none =>
  rintro e w2 ⟨⟨n, t, x, rfl⟩, hb2⟩;have hB : Below w.heap.size w w2 := ((Below.refl _ _).alloc (Nat.le_refl _) _).trans (hb2.mono (by simp));have hc2 := (hB.cell (p := ⟨g, 0, none⟩) hg).trans hc;have hf2 := (hB.frozen (p := ⟨g, 0, none⟩) hg).trans hf;go_wp2_with fail
  go_ret;exact ⟨n, t, x, rfl, w2, hB, rfl⟩
end Go.Proofs.YtmecbmgfacpecaaGreatDoor.Cron
namespace Go.Proofs.YtmecbmgfacpecaaGreatDoor.Cron
open Go Go.RowKit Go.Proofs.YtmecbmgfacpecaaGreatDoor.Text Go.Proofs.YtmecbmgfacpecaaGreatDoor.Bits Go.Proofs.YtmecbmgfacpecaaGreatDoorW.PrintWords Go.Proofs.YtmecbmgfacpecaaGreatDoorW.PrintLast Go.Proofs.YtmecbmgfacpecaaGreatDoorW.PrintMore Go.Proofs.YtmecbmgfacpecaaGreatDoor.Pr
theorem wrap_i64_nat {n : Nat} (h : n < 9223372036854775808) : IntKind.i64.wrap (n : Int) = (n : Int) := by
 rw [IntKind.wrap_i64];omega
theorem and_i64 {a b : Nat} (ha : a < 9223372036854775808) (hb : b < 9223372036854775808) : bits .and .i64 (a : Int) (b : Int) = ((a &&& b : Nat) : Int) := by
 have ha' : a % 2 ^ 64 = a := Nat.mod_eq_of_lt (by omega);have hb' : b % 2 ^ 64 = b := Nat.mod_eq_of_lt (by omega);have e : IntKind.i64.bits = 64 := rfl;unfold bits;rw [e];show IntKind.i64.wrap ((BitVec.ofInt 64 (a : Int) &&& BitVec.ofInt 64 (b : Int)).toNat : Int) = _
 rw [BitVec.ofInt_natCast, BitVec.ofInt_natCast, BitVec.toNat_and, BitVec.toNat_ofNat, BitVec.toNat_ofNat, ha', hb'];exact wrap_i64_nat (Nat.lt_of_le_of_lt Nat.and_le_left ha)
theorem or_i64 {a b : Nat} (ha : a < 4611686018427387904) (hb : b < 4611686018427387904) : bits .or .i64 (a : Int) (b : Int) = ((a ||| b : Nat) : Int) := by
 have ha' : a % 2 ^ 64 = a := Nat.mod_eq_of_lt (by omega);have hb' : b % 2 ^ 64 = b := Nat.mod_eq_of_lt (by omega);have e : IntKind.i64.bits = 64 := rfl;unfold bits;rw [e];show IntKind.i64.wrap ((BitVec.ofInt 64 (a : Int) ||| BitVec.ofInt 64 (b : Int)).toNat : Int) = _
 rw [BitVec.ofInt_natCast, BitVec.ofInt_natCast, BitVec.toNat_or, BitVec.toNat_ofNat, BitVec.toNat_ofNat, ha', hb'];exact wrap_i64_nat (Nat.lt_of_lt_of_le (Nat.or_lt_two_pow (n := 62) ha hb) (by decide))
def placesL : List Nat := [1, 4, 8, 16, 32, 64]
def defaultsL : List ByteArray := [⟨#[48]⟩, ⟨#[48]⟩, ⟨#[48]⟩, ⟨#[42]⟩, ⟨#[42]⟩, ⟨#[42]⟩]
def optS (o : Nat) : Nat := if 0 < o &&& 2 then o ||| 1 else o
def optD (o : Nat) : Nat := if 0 < o &&& 128 then o ||| 64 else o
def optAll (o : Nat) : Nat := optD (optS o)
def nOpt (o : Nat) : Nat := (if 0 < o &&& 2 then 1 else 0) + (if 0 < optS o &&& 128 then 1 else 0)
def takenN (o : Nat) (ps : List Nat) : Nat := (ps.filter fun p => decide (0 < o &&& p)).length
def fillL (o : Nat) : List Nat → List ByteArray → List ByteArray → List ByteArray
 | p :: ps, d :: ds, fs => if 0 < o &&& p then (match fs with | f :: fs => f :: fillL o ps ds fs | [] => d :: fillL o ps ds []) else d :: fillL o ps ds fs
 | _, _, _ => []
def normF (fs : List ByteArray) (o : Nat) : Option (List ByteArray) :=
 if 1 < nOpt o then none
 else if fs.length < takenN (optAll o) placesL - nOpt o ∨ takenN (optAll o) placesL < fs.length then none
 else some (fillL (optAll o) placesL defaultsL
  (if 0 < nOpt o ∧ fs.length = takenN (optAll o) placesL - nOpt o then (if 0 < optAll o &&& 128 then fs ++ [⟨#[42]⟩] else ⟨#[48]⟩ :: fs) else fs))
structure Ints (w : World) (g n cap : Nat) (l : List Nat) : Prop where
 len : n = l.length
 lt : g < w.heap.size
 at_ : ∀ (i : Nat) x, l[i]? = some x → w.cell? ⟨g, i, none⟩ = some (.int .i64 (x : Nat))
theorem Ints.below {w w' : World} {g n cap : Nat} {l : List Nat} (h : Ints w g n cap l) (hb : Below w.heap.size w w') : Ints w' g n cap l :=
 ⟨h.len, Nat.lt_of_lt_of_le h.lt hb.size, fun i x hx => (hb.cell (p := ⟨g, i, none⟩) h.lt).trans (h.at_ i x hx)⟩
theorem defaults_any (w : World) : Calls Tryz.prog 149 #[] w fun e w' => ∃ g c, e = .returned (.slice (some ⟨g, 0, none⟩) 6 c) ∧ w.heap.size ≤ g ∧ Texts w' g 6 c defaultsL ∧ Below w.heap.size w w' := by
 refine (cron_defaults.calls _ w rfl).mono ?_;rintro e w' ⟨v, rfl, hR, hb⟩;obtain ⟨g, n, cap, rfl, hg, ht⟩ := texts_of_R hR (by simp);have hn : n = 6 := ht.len;subst hn;exact ⟨g, cap, rfl, hg, ht, hb⟩
theorem places_any (w : World) : Calls Tryz.prog 148 #[] w fun e w' => ∃ g c, e = .returned (.slice (some ⟨g, 0, none⟩) 6 c) ∧ w.heap.size ≤ g ∧ Ints w' g 6 c placesL ∧ Below w.heap.size w w' := by
 refine (cron_places.calls _ w rfl).mono ?_;rintro e w' ⟨v, rfl, hR, hb⟩;have ho := Kd.own_of_R hR;obtain ⟨_, h1 | ⟨g, cap, cur, rfl, hg, hc, hn, hm, hs, ht⟩⟩ := ho
 ·exact absurd (List.length_eq_zero_iff.1 h1.2) (by simp)
 ·refine ⟨g, cap, rfl, hg, ⟨rfl, (Array.getElem?_eq_some_iff.1 hc).1, fun i x hx => ?_⟩, hb⟩;have hi : i < 6 := (List.getElem?_eq_some_iff.1 hx).1;have := (Kd.R_cell (0 : Int) hR (i : Int) (by omega) (by simp; omega)).1;rw [Int.toNat_natCast] at this;rw [this];match i, hi, hx with
  | 0, _, hx => cases hx; rfl
  | 1, _, hx => cases hx; rfl
  | 2, _, hx => cases hx; rfl
  | 3, _, hx => cases hx; rfl
  | 4, _, hx => cases hx; rfl
  | 5, _, hx => cases hx; rfl
end Go.Proofs.YtmecbmgfacpecaaGreatDoor.Cron
namespace Go.Proofs.YtmecbmgfacpecaaGreatDoor.Cron
open Go Go.RowKit
theorem takenN_cons (q p : Nat) (ps : List Nat) : takenN q (p :: ps) = (if 0 < q &&& p then 1 else 0) + takenN q ps := by
 unfold takenN;by_cases h : 0 < q &&& p
 ·rw [List.filter_cons_of_pos (by simpa using h), if_pos h, List.length_cons, Nat.add_comm]
 ·rw [List.filter_cons_of_neg (by simpa using h), if_neg h, Nat.zero_add]
theorem fill_length (q : Nat) : ∀ (ps : List Nat) (ds fs : List ByteArray), ps.length = ds.length → (fillL q ps ds fs).length = ps.length
 | [], [], _, _ => rfl
 | p :: ps, d :: ds, fs, h => by
  have h' : ps.length = ds.length := by simpa using h
  unfold fillL;by_cases hp : 0 < q &&& p
  ·rw [if_pos hp];cases fs with
   | nil => simp [fill_length q ps ds [] h']
   | cons f fs => simp [fill_length q ps ds fs h']
  ·rw [if_neg hp];simp [fill_length q ps ds fs h']
theorem fill_at (q : Nat) : ∀ (ps : List Nat) (ds fs : List ByteArray) (i : Nat) (h : i < ps.length), ps.length = ds.length → takenN q ps ≤ fs.length →
  (fillL q ps ds fs)[i]? = if 0 < q &&& ps[i] then fs[takenN q (ps.take i)]? else ds[i]?
 | p :: ps, d :: ds, fs, i, h, hl, ht => by
  have hl' : ps.length = ds.length := by simpa using hl
  rw [takenN_cons] at ht;unfold fillL;by_cases hp : 0 < q &&& p
  ·rw [if_pos hp] at ht ⊢
   cases fs with
   | nil => simp at ht
   | cons f fs =>
    cases i with
    | zero => simp [hp, takenN]
    | succ i =>
     have hi : i < ps.length := by simpa using h
     have ih := fill_at q ps ds fs i hi hl' (by simp at ht; omega);simp only [List.getElem?_cons_succ, List.getElem_cons_succ, List.take_succ_cons, takenN_cons, if_pos hp];rw [ih, Nat.add_comm 1, List.getElem?_cons_succ]
  ·rw [if_neg hp] at ht ⊢
   cases i with
   | zero => simp [hp]
   | succ i =>
    have hi : i < ps.length := by simpa using h
    have ih := fill_at q ps ds fs i hi hl' (by omega);simp only [List.getElem?_cons_succ, List.getElem_cons_succ, List.take_succ_cons, takenN_cons, if_neg hp, Nat.zero_add];exact ih
def fillRow (F ds : List ByteArray) (i : Nat) : List ByteArray := F.take i ++ ds.drop i
theorem fillRow_same {F ds : List ByteArray} {i : Nat} {x : ByteArray} (hF : F[i]? = some x) (hd : ds[i]? = some x) : fillRow F ds (i + 1) = fillRow F ds i := by
 unfold fillRow;obtain ⟨h1, h2⟩ := List.getElem?_eq_some_iff.1 hd;rw [List.take_add_one, hF, List.drop_eq_getElem_cons h1, h2];simp
theorem fillRow_set {F ds : List ByteArray} {i : Nat} {x : ByteArray} (hF : F[i]? = some x) (hd : i < ds.length) : (fillRow F ds i).set i x = fillRow F ds (i + 1) := by
 unfold fillRow;have hl : i < F.length := (List.getElem?_eq_some_iff.1 hF).1;rw [List.take_add_one, hF, List.drop_eq_getElem_cons hd];have ht : (F.take i).length = i := by rw [List.length_take]; omega
 rw [List.set_append_right _ _ (by omega), ht, Nat.sub_self, List.set_cons_zero, Option.toList_some, List.append_assoc, List.singleton_append]
theorem fillRow_zero (F ds : List ByteArray) : fillRow F ds 0 = ds := by simp [fillRow]
theorem fillRow_end {F ds : List ByteArray} {i : Nat} (h1 : F.length ≤ i) (h2 : ds.length ≤ i) : fillRow F ds i = F := by
 unfold fillRow;rw [List.take_of_length_le h1, List.drop_eq_nil_of_le h2, List.append_nil]
end Go.Proofs.YtmecbmgfacpecaaGreatDoor.Cron
namespace Go.Proofs.YtmecbmgfacpecaaGreatDoor.Cron
open Go Go.RowKit Go.Lib
def lowRune (r : Nat) : List UInt8 :=
 if 65 ≤ r ∧ r ≤ 90 then [UInt8.ofNat (r + 32)] else if r = 304 then [105] else if r = 8490 then [107] else (Utf8.encode (r : Int)).data.toList
def lowGo (s : ByteArray) : Nat → Nat → List UInt8
 | 0, _ => []
 | f + 1, pos => if pos < s.size then lowRune (Utf8.decode s pos).1 ++ lowGo s f (pos + (Utf8.decode s pos).2) else []
def lowS (s : ByteArray) : List UInt8 := lowGo s s.size 0
theorem lowGo_end (s : ByteArray) (f pos : Nat) (h : ¬ pos < s.size) : lowGo s f pos = [] := by
 cases f with
 | zero => rfl
 | succ f => rw [lowGo, if_neg h]
theorem info_byte : (Tryz.prog.info? 5).map (fun i => (i.zero, i.size, i.bytes)) = some (some (.int .u8 0), 1, 1) := by kernel_rfl
def cells8 (l : List UInt8) : List Value := l.map fun b => Value.int .u8 b.toNat
theorem cells8_str (s : ByteArray) : strCells s = cells8 s.data.toList := rfl
theorem cells8_append (a b : List UInt8) : cells8 (a ++ b) = cells8 a ++ cells8 b := by simp [cells8]
theorem one_new (w : World) (x : Value) (t : TypeId) : ∀ j u, [x][j]? = some u → (w.alloc (.cells #[x] t)).cell? ((⟨w.heap.size, 0, none⟩ : Addr).add j) = some u := by
 intro j u hj;match j, hj with
 | 0, hj => simp at hj; subst hj; simp [Addr.add]
 | (j + 1), hj => simp at hj
theorem run_rune_string (w : World) (r : Nat) : (convert 21 9 (.int .i32 (r : Int))).run Tryz.prog w = .ok (.string (Utf8.encode (r : Int))) w := by
 simp [convert, run_underlying Tryz.underlying21, run_underlying Tryz.underlying9, Conv.intToString]
theorem conv_own {w : World} {B : Nat} {v : Value} {l : List UInt8} (h : w.ownsRow B 5 1 v l.length (cells8 l)) : (convert 86 9 v).run Tryz.prog w = .ok (.string ⟨l.toArray⟩) w := by
 rcases h.2 with ⟨rfl, h0⟩ | ⟨g, cap, cur, rfl, hb, hg, hle, hcap, hsz, ht⟩
 ·have : l = [] := List.length_eq_zero_iff.1 h0;subst this;rw [run_convert_bytes_string w _ _ _ none 0 0 Tryz.underlying86 Tryz.underlying5 Tryz.underlying9];rfl
 ·exact run_convert_bytes_back w _ _ _ ⟨g, 0, none⟩ cap l Tryz.underlying86 Tryz.underlying5 Tryz.underlying9 (fun j hj => h.cells (g := g) rfl j _ (by simp [cells8, hj]))
theorem low_step {w W w1 : World} {v : Value} {n : Nat} {xs : List Value} {s : ByteArray} {p : Nat} {e : TypeId} (o : Obj) (hb : Below w.heap.size w W) (hit : W.heap[w.heap.size]? = some (.stringIter s p)) (hown : W.ownsRow w.heap.size e 1 v n xs)
  (hgrow : (W.alloc o).grownBy w1 v.ownBlock) : w1.heap[w.heap.size]? = some (.stringIter s p) ∧ Below w.heap.size w w1 := by
 have hlt : w.heap.size < W.heap.size := (Array.getElem?_eq_some_iff.1 hit).1;refine ⟨?_, ?_⟩
 ·rw [hgrow.block w.heap.size (by simp; omega) (own_ne_iter hown hit), heap_alloc_old W o hlt];exact hit
 ·exact (hb.alloc hb.size o).grown hgrow (by simp; omega) (fun k hk => (hown.lt k hk).1)
theorem low_step0 {w W w1 : World} {v : Value} {n : Nat} {xs : List Value} {s : ByteArray} {p : Nat} {e : TypeId} (hb : Below w.heap.size w W) (hit : W.heap[w.heap.size]? = some (.stringIter s p)) (hown : W.ownsRow w.heap.size e 1 v n xs)
  (hgrow : W.grownBy w1 v.ownBlock) : w1.heap[w.heap.size]? = some (.stringIter s p) ∧ Below w.heap.size w w1 := by
 have hlt : w.heap.size < W.heap.size := (Array.getElem?_eq_some_iff.1 hit).1;refine ⟨?_, ?_⟩
 ·rw [hgrow.block w.heap.size hlt (own_ne_iter hown hit)];exact hit
 ·exact hb.grown hgrow (by omega) (fun k hk => (hown.lt k hk).1)
set_option maxRecDepth 100000 in
set_option maxHeartbeats 4000000 in
theorem zzLower_any (s : ByteArray) (hs : s.size ≤ 4294967296) (w : World) :
  Calls Tryz.prog 206 #[.string s] w fun e w' => e = .returned (.string ⟨(lowS s).toArray⟩) ∧ Below w.heap.size w w' := by
 obtain ⟨i0, hi, hz0, hz1, hz2⟩ := info_parts info_byte;go_enter Tryz.func206, Tryz.ntmps206;go_wp2
 go_loopg [3] s.size (fun gf s3 wx => ∃ (pos : Nat) (acc : List UInt8), wx.ownsRow w.heap.size 5 1 s3 acc.length (cells8 acc) ∧ wx.heap[w.heap.size]? = some (.stringIter s pos) ∧ Below w.heap.size w wx ∧
   Hid (acc ++ lowGo s gf pos = lowS s) ∧ s.size ≤ pos + gf ∧ pos ≤ s.size ∧ acc.length ≤ 4 * pos)
 case atStart =>
  exact ⟨0, [], World.ownsRow_nil _ _ _ _, World.iter_heap w s 0, (Below.refl _ _).alloc (Nat.le_refl _) _, Lib.hid rfl, by omega, Nat.zero_le _, by simp⟩
 case round =>
  obtain ⟨pos, acc, hown, hit, hbw, HG, hfu, hps, hal⟩ := hrel;by_cases hlt : pos < s.size
  ·obtain ⟨g', rfl⟩ : ∃ g', gk = g' + 1 := ⟨gk - 1, by omega⟩
   have hnx : ∀ ty, (Instr.next (.pointer (some ⟨w.heap.size, 0, none⟩)) true ty).run Tryz.prog wr = _ := fun ty => Lib.run_next_any_at wr w.heap.size s pos ty hit hlt
   have hwd := Lib.width_pos s pos
   have hwn : pos + (Utf8.decode s pos).2 ≤ s.size := by
    have := Lib.decodeN_le_n' (s.size - pos) (s.get! pos).toNat (s.get! (pos + 1)).toNat (s.get! (pos + 2)).toNat (s.get! (pos + 3)).toNat (by omega);rw [← Lib.decode_at] at this;omega
   have hrl := Lib.rune_le s pos;have hG := HG.out;rw [lowGo, if_pos hlt] at hG;generalize (Utf8.decode s pos).1 = R at *;generalize (Utf8.decode s pos).2 = K at *;have hit2 := Lib.iterAt_heap wr w.heap.size s pos (pos + K) hit;have hbw2 := Lib.below_iterAt hbw (k := w.heap.size) (Nat.le_refl _) s (pos + K);have hown2 := own_iterAt hown hit (pos + K);obtain ⟨W, hWd⟩ : ∃ W, wr.iterAt w.heap.size s (pos + K) = W := ⟨_, rfl⟩
   rw [hWd] at hnx hit2 hbw2 hown2
   have HG2 := Lib.hid hG;clear hown hit hbw HG hG;have hne := own_ne_iter hown2 hit2;have hz : w.heap.size < W.heap.size := (Array.getElem?_eq_some_iff.1 hit2).1;by_cases c1 : 65 ≤ R ∧ R ≤ 90
   ·obtain ⟨c1a, c1b⟩ := c1;have hc : lowRune R = [UInt8.ofNat (R + 32)] := by unfold lowRune; rw [if_pos ⟨c1a, c1b⟩]
    rw [hc] at HG2;go_wp2_with (at_builtin; refine wpList_append_own _ rfl _ _ 86 rfl w.heap.size 5 i0 (.int .u8 0) 1 1 Tryz.underlying86 hi hz0 hz1 hz2 rfl (by decide) _ _ _ rfl (hown2.alloc _) ⟨W.heap.size, 0, none⟩ 1 1 [_] rfl rfl (one_new W _ _) (by intro u hu; simp at hu; subst hu; rfl) (by unfold maxLen; omega) (by omega) (by simp; omega) ?_; intro v' w1 hown' hgrow _)
    obtain ⟨hit3, hbw3⟩ := low_step _ hbw2 hit2 hown2 hgrow
    have hown3 : w1.ownsRow w.heap.size 5 1 v' (acc ++ [UInt8.ofNat (R + 32)]).length (cells8 (acc ++ [UInt8.ofNat (R + 32)])) := by
     rw [List.length_append, cells8_append]
     have hv : (R : Int) - 65 + 97 = ((UInt8.ofNat (R + 32)).toNat : Int) := by
      rw [UInt8.toNat_ofNat'];omega
     rw [hv] at hown';exact hown'
    clear hown' hgrow hown2 hit2 hbw2 hne;go_roundg g'
    case measure => omega
    case rel => exact ⟨pos + K, acc ++ [UInt8.ofNat (R + 32)], hown3, hit3, hbw3, Lib.hid (by rw [List.append_assoc]; exact HG2.out), by omega, hwn, by simp; omega⟩
   ·have hn1 : ¬ ((65 : Int) ≤ R ∧ (R : Int) ≤ 90) := by omega
    have hR1 : (65 : Int) ≤ R → 90 < (R : Int) := by omega
    by_cases c2 : R = 304
    ·subst c2;have hc : lowRune 304 = [105] := by unfold lowRune; rw [if_neg (by omega), if_pos rfl]
     rw [hc] at HG2;go_wp2_with (at_builtin; refine wpList_append_own _ rfl _ _ 86 rfl w.heap.size 5 i0 (.int .u8 0) 1 1 Tryz.underlying86 hi hz0 hz1 hz2 rfl (by decide) _ _ _ rfl (hown2.alloc _) ⟨W.heap.size, 0, none⟩ 1 1 [_] rfl rfl (one_new W _ _) (by intro u hu; simp at hu; subst hu; rfl) (by unfold maxLen; omega) (by omega) (by simp; omega) ?_; intro v' w1 hown' hgrow _)
     obtain ⟨hit3, hbw3⟩ := low_step _ hbw2 hit2 hown2 hgrow
     have hown3 : w1.ownsRow w.heap.size 5 1 v' (acc ++ [105]).length (cells8 (acc ++ [105])) := by
      rw [List.length_append, cells8_append];exact hown'
     clear hown' hgrow hown2 hit2 hbw2 hne;go_roundg g'
     case measure => omega
     case rel => exact ⟨pos + K, acc ++ [105], hown3, hit3, hbw3, Lib.hid (by rw [List.append_assoc]; exact HG2.out), by omega, hwn, by simp; omega⟩
    ·by_cases c3 : R = 8490
     ·subst c3;have hc : lowRune 8490 = [107] := by unfold lowRune; rw [if_neg (by omega), if_neg (by omega), if_pos rfl]
      rw [hc] at HG2;go_wp2_with (at_builtin; refine wpList_append_own _ rfl _ _ 86 rfl w.heap.size 5 i0 (.int .u8 0) 1 1 Tryz.underlying86 hi hz0 hz1 hz2 rfl (by decide) _ _ _ rfl (hown2.alloc _) ⟨W.heap.size, 0, none⟩ 1 1 [_] rfl rfl (one_new W _ _) (by intro u hu; simp at hu; subst hu; rfl) (by unfold maxLen; omega) (by omega) (by simp; omega) ?_; intro v' w1 hown' hgrow _)
      obtain ⟨hit3, hbw3⟩ := low_step _ hbw2 hit2 hown2 hgrow
      have hown3 : w1.ownsRow w.heap.size 5 1 v' (acc ++ [107]).length (cells8 (acc ++ [107])) := by
       rw [List.length_append, cells8_append];exact hown'
      clear hown' hgrow hown2 hit2 hbw2 hne;go_roundg g'
      case measure => omega
      case rel => exact ⟨pos + K, acc ++ [107], hown3, hit3, hbw3, Lib.hid (by rw [List.append_assoc]; exact HG2.out), by omega, hwn, by simp; omega⟩
     ·have hc : lowRune R = (Utf8.encode (R : Int)).data.toList := by unfold lowRune; rw [if_neg c1, if_neg c2, if_neg c3]
      rw [hc] at HG2;have hel := encode_size_le (R : Int);have hcv := fun w' : World => run_rune_string w' R
      generalize Utf8.encode (R : Int) = E at *;have hem : E.data.toList.length = E.size := Array.length_toList;have hc2 : ((R : Int) == 304) = false := by simpa using (by omega : ¬ (R : Int) = 304)
      have hc3 : ((R : Int) == 8490) = false := by simpa using (by omega : ¬ (R : Int) = 8490)
      by_cases c4 : 65 ≤ R
      ·have c5 : ¬ R ≤ 90 := by omega
       go_wp2_with (at_builtin; refine wpList_append_own_string _ rfl _ _ 86 9 rfl w.heap.size 5 i0 Tryz.underlying86 Tryz.underlying9 hi hz0 hz1 hz2 _ _ _ rfl hown2 _ rfl (by unfold maxLen; omega) (by omega) (by omega) ?_; intro v' w1 hown' hgrow _)
       obtain ⟨hit3, hbw3⟩ := low_step0 hbw2 hit2 hown2 hgrow
       have hown3 : w1.ownsRow w.heap.size 5 1 v' (acc ++ E.data.toList).length (cells8 (acc ++ E.data.toList)) := by
        rw [List.length_append, cells8_append, ← cells8_str, hem];exact hown'
       clear hown' hgrow hown2 hit2 hbw2 hne;go_roundg g'
       case measure => omega
       case rel => exact ⟨pos + K, acc ++ E.data.toList, hown3, hit3, hbw3, Lib.hid (by rw [List.append_assoc]; exact HG2.out), by omega, hwn, by rw [List.length_append]; omega⟩
      ·go_wp2_with (at_builtin; refine wpList_append_own_string _ rfl _ _ 86 9 rfl w.heap.size 5 i0 Tryz.underlying86 Tryz.underlying9 hi hz0 hz1 hz2 _ _ _ rfl hown2 _ rfl (by unfold maxLen; omega) (by omega) (by omega) ?_; intro v' w1 hown' hgrow _)
       obtain ⟨hit3, hbw3⟩ := low_step0 hbw2 hit2 hown2 hgrow
       have hown3 : w1.ownsRow w.heap.size 5 1 v' (acc ++ E.data.toList).length (cells8 (acc ++ E.data.toList)) := by
        rw [List.length_append, cells8_append, ← cells8_str, hem];exact hown'
       clear hown' hgrow hown2 hit2 hbw2 hne;go_roundg g'
       case measure => omega
       case rel => exact ⟨pos + K, acc ++ E.data.toList, hown3, hit3, hbw3, Lib.hid (by rw [List.append_assoc]; exact HG2.out), by omega, hwn, by rw [List.length_append]; omega⟩
  ·have hpe : pos = s.size := by omega
   have hnx := fun ty => run_next_end_at (P := Tryz.prog) wr w.heap.size s pos ty hit hlt
   have hacc : acc = lowS s := by
    have := HG.out;rw [lowGo_end _ _ _ hlt, List.append_nil] at this;exact this
   have hcv := conv_own hown;rw [hacc] at hcv;clear HG hown;go_wp2_with fail
   go_ret;exact ⟨rfl, hbw⟩
end Go.Proofs.YtmecbmgfacpecaaGreatDoor.Cron
