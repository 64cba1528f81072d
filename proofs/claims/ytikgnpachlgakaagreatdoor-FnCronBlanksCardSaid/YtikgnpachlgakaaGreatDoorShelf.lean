/-
  DERIVED: THE SHELF's CONTRACTS AT THIS DUMP, IN PLAIN WORDS (tools/lay-plain.mjs out of 'TryzShelf.lean', which tools/lay-shelf.mjs wrote): THE SAME DECLARATIONS UNDER THE SAME NAMES: 'import', 'namespace', 'open', 'def', 'theorem' AND NOTHING ELSE: no command of the shelf's: FOR A HAND-IN. Each laying: the table of numbers ('.._ren') and one theorem, a field a fact of the dump's own or the kernel's comparison; each contract: ONE APPLICATION.
-/
import Derived.Shelf.Strconv.Atoi
import Derived.Shelf.Strconv.Itoa0
import Derived.Shelf.Strconv.Itoa1
import Derived.Shelf.LaysM
import Derived.Shelf.Strconv.Itoa2
import Derived.Shelf.Strconv.Itoa3
import Derived.Shelf.Strconv.AtoiErrFast
import Derived.Shelf.Strconv.ParseIntEmpty
import Derived.Shelf.Strconv.AtoiFail
import Derived.Shelf.Strconv.Clone
import Derived.Shelf.Strconv.SyntaxError
import Derived.Shelf.LaysC
import Derived.Shelf.Strconv.ToError
import Derived.Shelf.Strconv.Lower
import Derived.Shelf.Strconv.ParseUint10
import Derived.Shelf.Strconv.ParseUint10Empty
import Derived.Shelf.Strconv.ParseUint10Any
import Derived.Shelf.Strconv.ParseInt10
import Derived.Shelf.Strconv.AtoiLong
import Derived.Shelf.Strconv.AtoiInnerAll
import Derived.Shelf.Strconv.RangeError
import Derived.Shelf.Strconv.ToErrorRange
import Derived.Shelf.Strconv.AtoiAll
import Derived.Shelf.Strconv.ErrVarAll
import Derived.Shelf.Strings.Prefix
import Derived.Shelf.Unicode.Decode
import Derived.Shelf.Unicode.DecodeSlow
import Derived.Shelf.Unicode.DecodeAny
import Derived.Shelf.Strings.FieldsFuncAny
import Derived.Shelf.Strings.FieldsFuncGrows
import Derived.Test.YtikgnpachlgakaaGreatDoorProg
namespace Go.Proofs
open Go.Shelf
def Tryz.laysC172_ren : Go.Shelf.Ren := ⟨fun | 172 => 83 | 244 => 90 | 245 => 91 | 247 => 96 | 279 => 97 | 280 => 98 | 281 => 99 | 282 => 100 | 287 => 103 | 316 => 104 | 171 => 105 | 205 => 26 | 321 => 109 | 322 => 110 | 243 => 111 | 246 => 113 | 283 => 114 | 284 => 115 | 285 => 116 | 286 => 117 | 129 => 119 | 317 => 118 | 318 => 120 | 319 => 121 | 320 => 122 | 337 => 123 | 338 => 124 | n => n, fun | 9 => 9 | 3 => 3 | 75 => 48 | 76 => 152 | 4 => 4 | 5 => 5 | 167 => 165 | 37 => 159 | 0 => 0 | 85 => 166 | 2 => 2 | 168 => 168 | 53 => 27 | 175 => 82 | 46 => 78 | 210 => 174 | 127 => 177 | 145 => 92 | 143 => 90 | 21 => 21 | 171 => 179 | 173 => 182 | 212 => 185 | 51 => 186 | 20 => 20 | 213 => 187 | 232 => 190 | 233 => 191 | 80 => 192 | n => n, fun | 15 => 4 | 16 => 5 | 17 => 6 | 18 => 7 | 19 => 8 | n => n⟩
theorem Tryz.laysC172 : Go.Proofs.LaysC.n172 Tryz.prog Tryz.laysC172_ren := {
  mixed := by kernel_rfl
  f129 := Tryz.func119.trans (congrArg some (by kernel_rfl))
  f171 := Tryz.func105.trans (congrArg some (by kernel_rfl))
  f172 := Tryz.func83.trans (congrArg some (by kernel_rfl))
  f205 := Tryz.func26.trans (congrArg some (by kernel_rfl))
  f243 := Tryz.func111.trans (congrArg some (by kernel_rfl))
  f244 := Tryz.func90.trans (congrArg some (by kernel_rfl))
  f245 := Tryz.func91.trans (congrArg some (by kernel_rfl))
  f246 := Tryz.func113.trans (congrArg some (by kernel_rfl))
  f247 := Tryz.func96.trans (congrArg some (by kernel_rfl))
  f279 := Tryz.func97.trans (congrArg some (by kernel_rfl))
  f280 := Tryz.func98.trans (congrArg some (by kernel_rfl))
  f281 := Tryz.func99.trans (congrArg some (by kernel_rfl))
  f282 := Tryz.func100.trans (congrArg some (by kernel_rfl))
  f283 := Tryz.func114.trans (congrArg some (by kernel_rfl))
  f284 := Tryz.func115.trans (congrArg some (by kernel_rfl))
  f285 := Tryz.func116.trans (congrArg some (by kernel_rfl))
  f286 := Tryz.func117.trans (congrArg some (by kernel_rfl))
  f287 := Tryz.func103.trans (congrArg some (by kernel_rfl))
  f316 := Tryz.func104.trans (congrArg some (by kernel_rfl))
  f317 := Tryz.func118.trans (congrArg some (by kernel_rfl))
  f318 := Tryz.func120.trans (congrArg some (by kernel_rfl))
  f319 := Tryz.func121.trans (congrArg some (by kernel_rfl))
  f320 := Tryz.func122.trans (congrArg some (by kernel_rfl))
  f321 := Tryz.func109.trans (congrArg some (by kernel_rfl))
  f322 := Tryz.func110.trans (congrArg some (by kernel_rfl))
  f337 := Tryz.func123.trans (congrArg some (by kernel_rfl))
  f338 := Tryz.func124.trans (congrArg some (by kernel_rfl))
  t0 := Tryz.underlying0
  a0 := Tryz.isAgg0
  z0 := Tryz.sizeOf0
  v0 := Tryz.zeroValue0
  t2 := Tryz.underlying2
  a2 := Tryz.isAgg2
  z2 := Tryz.sizeOf2
  v2 := Tryz.zeroValue2
  t3 := Tryz.underlying3
  a3 := Tryz.isAgg3
  z3 := Tryz.sizeOf3
  v3 := Tryz.zeroValue3
  t4 := Tryz.underlying4
  a4 := Tryz.isAgg4
  z4 := Tryz.sizeOf4
  v4 := Tryz.zeroValue4
  t5 := Tryz.underlying5
  a5 := Tryz.isAgg5
  z5 := Tryz.sizeOf5
  v5 := Tryz.zeroValue5
  t9 := Tryz.underlying9
  a9 := Tryz.isAgg9
  z9 := Tryz.sizeOf9
  v9 := Tryz.zeroValue9
  t20 := Tryz.underlying20
  a20 := Tryz.isAgg20
  z20 := Tryz.sizeOf20
  v20 := Tryz.zeroValue20
  t21 := Tryz.underlying21
  a21 := Tryz.isAgg21
  z21 := Tryz.sizeOf21
  v21 := Tryz.zeroValue21
  t37 := Tryz.underlying159
  a37 := Tryz.isAgg159
  z37 := Tryz.sizeOf159
  v37 := Tryz.zeroValue159
  t46 := Tryz.underlying78
  a46 := Tryz.isAgg78
  z46 := Tryz.sizeOf78
  v46 := Tryz.zeroValue78
  t51 := Tryz.underlying186
  a51 := Tryz.isAgg186
  z51 := Tryz.sizeOf186
  v51 := Tryz.zeroValue186
  t53 := Tryz.underlying27
  a53 := Tryz.isAgg27
  z53 := Tryz.sizeOf27
  v53 := Tryz.zeroValue27
  t75 := Tryz.underlying48
  a75 := Tryz.isAgg48
  z75 := Tryz.sizeOf48
  v75 := Tryz.zeroValue48
  t76 := Tryz.underlying152
  a76 := Tryz.isAgg152
  z76 := Tryz.sizeOf152
  v76 := Tryz.zeroValue152
  t85 := Tryz.underlying166
  a85 := Tryz.isAgg166
  z85 := Tryz.sizeOf166
  v85 := Tryz.zeroValue166
  t127 := Tryz.underlying177
  a127 := Tryz.isAgg177
  z127 := Tryz.sizeOf177
  v127 := Tryz.zeroValue177
  t143 := Tryz.underlying90
  a143 := Tryz.isAgg90
  z143 := Tryz.sizeOf90
  v143 := Tryz.zeroValue90
  t145 := Tryz.underlying92
  a145 := Tryz.isAgg92
  z145 := Tryz.sizeOf92
  v145 := Tryz.zeroValue92
  t167 := Tryz.underlying165
  a167 := Tryz.isAgg165
  z167 := Tryz.sizeOf165
  v167 := Tryz.zeroValue165
  t168 := Tryz.underlying168
  a168 := Tryz.isAgg168
  z168 := Tryz.sizeOf168
  v168 := Tryz.zeroValue168
  t171 := Tryz.underlying179
  a171 := Tryz.isAgg179
  z171 := Tryz.sizeOf179
  v171 := Tryz.zeroValue179
  t173 := Tryz.underlying182
  a173 := Tryz.isAgg182
  z173 := Tryz.sizeOf182
  v173 := Tryz.zeroValue182
  t175 := Tryz.underlying82
  a175 := Tryz.isAgg82
  z175 := Tryz.sizeOf82
  v175 := Tryz.zeroValue82
  t210 := Tryz.underlying174
  a210 := Tryz.isAgg174
  z210 := Tryz.sizeOf174
  v210 := Tryz.zeroValue174
  t212 := Tryz.underlying185
  a212 := Tryz.isAgg185
  z212 := Tryz.sizeOf185
  v212 := Tryz.zeroValue185
  t213 := Tryz.underlying187
  a213 := Tryz.isAgg187
  z213 := Tryz.sizeOf187
  t232 := Tryz.underlying190
  a232 := Tryz.isAgg190
  z232 := Tryz.sizeOf190
  v232 := Tryz.zeroValue190
  t233 := Tryz.underlying191
  a233 := Tryz.isAgg191
  z233 := Tryz.sizeOf191
  v233 := Tryz.zeroValue191
  g15 := by kernel_rfl
  g16 := by kernel_rfl
  g17 := by kernel_rfl
  g18 := by kernel_rfl
  g19 := by kernel_rfl
  t80 := Tryz.underlying192
  a80 := Tryz.isAgg192
  z80 := Tryz.sizeOf192
  v80 := Tryz.zeroValue192
  i0 := by kernel_rfl
  i2 := by kernel_rfl
  i3 := by kernel_rfl
  i4 := by kernel_rfl
  i5 := by kernel_rfl
  i9 := by kernel_rfl
  i20 := by kernel_rfl
  i21 := by kernel_rfl
  i37 := by kernel_rfl
  i46 := by kernel_rfl
  i51 := by kernel_rfl
  i53 := by kernel_rfl
  i75 := by kernel_rfl
  i76 := by kernel_rfl
  i80 := by kernel_rfl
  i85 := by kernel_rfl
  i127 := by kernel_rfl
  i143 := by kernel_rfl
  i145 := by kernel_rfl
  i167 := by kernel_rfl
  i168 := by kernel_rfl
  i171 := by kernel_rfl
  i173 := by kernel_rfl
  i175 := by kernel_rfl
  i210 := by kernel_rfl
  i212 := by kernel_rfl
  i232 := by kernel_rfl
  i233 := by kernel_rfl
  m15 := by kernel_rfl
  m16 := by kernel_rfl
  m17 := by kernel_rfl
  m18 := by kernel_rfl
  m19 := by kernel_rfl
  c0 := by kernel_rfl
  c2 := by kernel_rfl
  c3 := by kernel_rfl
  c4 := by kernel_rfl
  c5 := by kernel_rfl
  c9 := by kernel_rfl
  c20 := by kernel_rfl
  c21 := by kernel_rfl
  c37 := by kernel_rfl
  c46 := by kernel_rfl
  c51 := by kernel_rfl
  c53 := by kernel_rfl
  c75 := by kernel_rfl
  c76 := by kernel_rfl
  c80 := by kernel_rfl
  c85 := by kernel_rfl
  c127 := by kernel_rfl
  c143 := by kernel_rfl
  c145 := by kernel_rfl
  c167 := by kernel_rfl
  c168 := by kernel_rfl
  c171 := by kernel_rfl
  c173 := by kernel_rfl
  c175 := by kernel_rfl
  c210 := by kernel_rfl
  c212 := by kernel_rfl
  c213 := by kernel_rfl
  c232 := by kernel_rfl
  c233 := by kernel_rfl }
open Go.RowKit in
/-- strconv.Atoi, AT EVERY STRING THAT SPELLS AN int ('Lib.atoiAll .. = .ok v'; of whatever length: leading zeros count): v, AND NO ERROR. The world: as it was, or with the one new row that '[]byte(..)' lays. (LAID: no walk: one application.) -/
theorem Tryz.strconv_Atoi_ok (s : ByteArray) (hmax : s.size ≤ 9223372036854775806) (v : Int) (h : Lib.atoiAll s.data.toList = .ok v) (w : World) :
    Calls Tryz.prog 83 #[.string s] w fun e w' => e = .returned (.tuple #[.int .i64 v, .nilIface]) ∧ (w' = w ∨ ∃ t, w' = Lib.bytesWorld w 5 t) := Any.strconv_Atoi_ok Tryz.laysC172 s hmax v h w
open Go.RowKit in
theorem Tryz.strconv_Atoi_syntax_var (s : ByteArray) (hlim : s.size ≤ 281474976710656) (hno : ∀ v, Lib.atoiAll s.data.toList ≠ .ok v) (hnr : Lib.atoiAll s.data.toList ≠ .range) (tp : TypeId) (p : Value) (w : World) (hvar : w.var? Tryz.prog "strconv.ErrSyntax" = some #[.iface tp p]) :
    Calls Tryz.prog 83 #[.string s] w fun e w' => ∃ N, e = .returned (.tuple #[.int .i64 0, .iface 168 (.pointer (some ⟨N, 0, none⟩))]) ∧ w.heap.size ≤ N ∧ w'.heap[N]? = some (.cells #[.string ⟨#[65, 116, 111, 105]⟩, .string s, .iface tp p] 174 (0, 0)) ∧ Below w.heap.size w w' := by
  rcases h : Lib.atoiAll s.data.toList with v | _ | _
  · exact absurd h (hno v)
  · exact Any.strconv_Atoi_syntax_var Tryz.laysC172 s hlim h tp p w hvar
  · exact absurd h hnr
open Go.RowKit in
theorem Tryz.strconv_Atoi_range_var (s : ByteArray) (hlim : s.size ≤ 281474976710656) (h : Lib.atoiAll s.data.toList = .range) (tp : TypeId) (p : Value) (w : World) (hvar : w.var? Tryz.prog "strconv.ErrRange" = some #[.iface tp p]) :
    Calls Tryz.prog 83 #[.string s] w fun e w' => ∃ N, e = .returned (.tuple #[.int .i64 (Lib.atoiSat s.data.toList), .iface 168 (.pointer (some ⟨N, 0, none⟩))]) ∧ w.heap.size ≤ N ∧ w'.heap[N]? = some (.cells #[.string ⟨#[65, 116, 111, 105]⟩, .string s, .iface tp p] 174 (0, 0)) ∧ Below w.heap.size w w' := Any.strconv_Atoi_range_var Tryz.laysC172 s hlim h tp p w hvar
def Tryz.lays99_ren : Go.Shelf.Ren := ⟨fun | 99 => 27 | 206 => 48 | n => n, fun | 9 => 9 | 4 => 4 | 3 => 3 | n => n, fun | n => n⟩
theorem Tryz.lays99 : Go.Proofs.Lays.n99 Tryz.prog Tryz.lays99_ren := {
  mixed := by kernel_rfl
  f99 := Tryz.func27.trans (congrArg some (by kernel_rfl))
  f206 := Tryz.func48.trans (congrArg some (by kernel_rfl))
  t3 := Tryz.underlying3
  a3 := Tryz.isAgg3
  z3 := Tryz.sizeOf3
  v3 := Tryz.zeroValue3
  t4 := Tryz.underlying4
  a4 := Tryz.isAgg4
  z4 := Tryz.sizeOf4
  v4 := Tryz.zeroValue4
  t9 := Tryz.underlying9
  a9 := Tryz.isAgg9
  z9 := Tryz.sizeOf9
  v9 := Tryz.zeroValue9 }
open Go.RowKit Go.Lib in
/-- strings.HasPrefix: "HasPrefix reports whether the string s begins with prefix.": IT RETURNS 'Lib.hasPrefix s prefix'; the world is as it was. (LAID: no walk: one application.) -/
theorem Tryz.strings_HasPrefix (s p : ByteArray) (w : World) :
    Calls Tryz.prog 27 #[.string s, .string p] w fun e w' => e = .returned (.bool (Lib.hasPrefix s.data.toList p.data.toList)) ∧ w' = w := Any.strings_HasPrefix Tryz.lays99 s p w
def Tryz.lays229_ren : Go.Shelf.Ren := ⟨fun | 229 => 58 | n => n, fun | 9 => 9 | 40 => 96 | 31 => 22 | 152 => 129 | 3 => 3 | 0 => 0 | 4 => 4 | 21 => 21 | 154 => 131 | n => n, fun | n => n⟩
theorem Tryz.lays229 : Go.Proofs.Lays.n229 Tryz.prog Tryz.lays229_ren := {
  mixed := by kernel_rfl
  f229 := Tryz.func58.trans (congrArg some (by kernel_rfl))
  t0 := Tryz.underlying0
  a0 := Tryz.isAgg0
  z0 := Tryz.sizeOf0
  v0 := Tryz.zeroValue0
  t3 := Tryz.underlying3
  a3 := Tryz.isAgg3
  z3 := Tryz.sizeOf3
  v3 := Tryz.zeroValue3
  t4 := Tryz.underlying4
  a4 := Tryz.isAgg4
  z4 := Tryz.sizeOf4
  v4 := Tryz.zeroValue4
  t9 := Tryz.underlying9
  a9 := Tryz.isAgg9
  z9 := Tryz.sizeOf9
  v9 := Tryz.zeroValue9
  t21 := Tryz.underlying21
  a21 := Tryz.isAgg21
  z21 := Tryz.sizeOf21
  v21 := Tryz.zeroValue21
  t31 := Tryz.underlying22
  a31 := Tryz.isAgg22
  z31 := Tryz.sizeOf22
  v31 := Tryz.zeroValue22
  t40 := Tryz.underlying96
  a40 := Tryz.isAgg96
  z40 := Tryz.sizeOf96
  v40 := Tryz.zeroValue96
  t152 := Tryz.underlying129
  a152 := Tryz.isAgg129
  z152 := Tryz.sizeOf129
  v152 := Tryz.zeroValue129
  t154 := Tryz.underlying131
  a154 := Tryz.isAgg131
  z154 := Tryz.sizeOf131
  v154 := Tryz.zeroValue131 }
open Go.RowKit Go.Lib in
theorem Tryz.strings_FieldsFunc_grows (g : Nat) (lb : Array Value) (eg : ∀ args w, (callFunc g args).run Tryz.prog w = .ok (.enter g args) w) (p : Nat → Bool) (s : ByteArray) (w : World) (hs : s.size ≤ 4294967296) (hp : PredGrows Tryz.prog g lb p w) :
    Calls Tryz.prog 58 #[.string s, .func (.func g) #[] lb] w fun e w' => ∃ A, e = .returned (.slice (some ⟨A, 0, none⟩) (Lib.goFieldsP p s).length (Lib.goFieldsP p s).length) ∧ w.heap.size ≤ A ∧
      w'.ownsRow w.heap.size 9 1 (.slice (some ⟨A, 0, none⟩) (Lib.goFieldsP p s).length (Lib.goFieldsP p s).length) (Lib.goFieldsP p s).length ((Lib.goFieldsP p s).map Value.string) ∧ Below w.heap.size w w' := Any.strings_FieldsFunc_grows Tryz.lays229 g lb eg p s w hs hp (by kernel_rfl) (by kernel_rfl)
end Go.Proofs
