/-
 DERIVED: THE SHELF's CONTRACTS AT THIS DUMP, IN PLAIN WORDS (tools/lay-plain.mjs out of 'TryzShelf.lean', which tools/lay-shelf.mjs wrote): THE SAME DECLARATIONS UNDER THE SAME NAMES: 'import', 'namespace', 'open', 'def', 'theorem' AND NOTHING ELSE: no command of the shelf's: FOR A HAND-IN. Each laying: the table of numbers ('.._ren') and one theorem, a field a fact of the dump's own or the kernel's comparison; each contract: ONE APPLICATION.
-/
import Derived.Shelf.Strconv.Atoi
import Derived.Shelf.Strconv.Itoa0
import Derived.Shelf.Strconv.Itoa1
import Derived.Shelf.LaysM
import Derived.Shelf.Strconv.Itoa2
import Derived.Shelf.Strconv.Itoa3
import Derived.Shelf.Strconv.AtoiErrFast
import Derived.Shelf.Strconv.ParseIntEmpty
import Derived.Shelf.Strconv.AtoiFail
import Derived.Shelf.Strconv.Clone
import Derived.Shelf.Strconv.SyntaxError
import Derived.Shelf.LaysC
import Derived.Shelf.Strconv.ToError
import Derived.Shelf.Strconv.Lower
import Derived.Shelf.Strconv.ParseUint10
import Derived.Shelf.Strconv.ParseUint10Empty
import Derived.Shelf.Strconv.ParseUint10Any
import Derived.Shelf.Strconv.ParseInt10
import Derived.Shelf.Strconv.AtoiLong
import Derived.Shelf.Strconv.AtoiInnerAll
import Derived.Shelf.Strconv.RangeError
import Derived.Shelf.Strconv.ToErrorRange
import Derived.Shelf.Strconv.AtoiAll
import Derived.Shelf.Strconv.ErrVarAll
import Derived.Shelf.Strings.Prefix
import Derived.Shelf.Unicode.DecodeSlow
import Derived.Shelf.Unicode.DecodeAny
import Derived.Shelf.Strings.FieldsFuncAny
import Derived.Shelf.Strings.FieldsFuncGrows
import Derived.Test.YtmecbmgfacpecaaGreatDoorProg
namespace Go.Proofs
open Go.Shelf
def Tryz.laysC172_ren : Go.Shelf.Ren := ⟨fun | 172 => 207 | 244 => 220 | 245 => 221 | 247 => 222 | 279 => 223 | 280 => 224 | 281 => 225 | 282 => 226 | 287 => 227 | 316 => 228 | 171 => 31 | 205 => 96 | 321 => 229 | 322 => 230 | 243 => 70 | 246 => 128 | 283 => 162 | 284 => 163 | 285 => 164 | 286 => 165 | 129 => 198 | 317 => 197 | 318 => 199 | 319 => 200 | 320 => 201 | 337 => 217 | 338 => 218 | n => n, fun | 9 => 9 | 3 => 3 | 75 => 112 | 76 => 328 | 4 => 4 | 5 => 5 | 167 => 338 | 37 => 86 | 0 => 0 | 85 => 339 | 2 => 2 | 168 => 341 | 53 => 24 | 175 => 186 | 46 => 182 | 210 => 346 | 127 => 347 | 145 => 246 | 143 => 244 | 21 => 21 | 171 => 275 | 173 => 278 | 212 => 316 | 51 => 200 | 20 => 20 | 213 => 317 | 232 => 336 | 233 => 337 | 80 => 348 | n => n, fun | 15 => 7 | 16 => 8 | 17 => 1 | 18 => 5 | 19 => 6 | n => n⟩
theorem Tryz.laysC172 : Go.Proofs.LaysC.n172 Tryz.prog Tryz.laysC172_ren := {
 mixed := by kernel_rfl
 f129 := Tryz.func198.trans (congrArg some (by kernel_rfl))
 f171 := Tryz.func31.trans (congrArg some (by kernel_rfl))
 f172 := Tryz.func207.trans (congrArg some (by kernel_rfl))
 f205 := Tryz.func96.trans (congrArg some (by kernel_rfl))
 f243 := Tryz.func70.trans (congrArg some (by kernel_rfl))
 f244 := Tryz.func220.trans (congrArg some (by kernel_rfl))
 f245 := Tryz.func221.trans (congrArg some (by kernel_rfl))
 f246 := Tryz.func128.trans (congrArg some (by kernel_rfl))
 f247 := Tryz.func222.trans (congrArg some (by kernel_rfl))
 f279 := Tryz.func223.trans (congrArg some (by kernel_rfl))
 f280 := Tryz.func224.trans (congrArg some (by kernel_rfl))
 f281 := Tryz.func225.trans (congrArg some (by kernel_rfl))
 f282 := Tryz.func226.trans (congrArg some (by kernel_rfl))
 f283 := Tryz.func162.trans (congrArg some (by kernel_rfl))
 f284 := Tryz.func163.trans (congrArg some (by kernel_rfl))
 f285 := Tryz.func164.trans (congrArg some (by kernel_rfl))
 f286 := Tryz.func165.trans (congrArg some (by kernel_rfl))
 f287 := Tryz.func227.trans (congrArg some (by kernel_rfl))
 f316 := Tryz.func228.trans (congrArg some (by kernel_rfl))
 f317 := Tryz.func197.trans (congrArg some (by kernel_rfl))
 f318 := Tryz.func199.trans (congrArg some (by kernel_rfl))
 f319 := Tryz.func200.trans (congrArg some (by kernel_rfl))
 f320 := Tryz.func201.trans (congrArg some (by kernel_rfl))
 f321 := Tryz.func229.trans (congrArg some (by kernel_rfl))
 f322 := Tryz.func230.trans (congrArg some (by kernel_rfl))
 f337 := Tryz.func217.trans (congrArg some (by kernel_rfl))
 f338 := Tryz.func218.trans (congrArg some (by kernel_rfl))
 t0 := Tryz.underlying0
 a0 := Tryz.isAgg0
 z0 := Tryz.sizeOf0
 v0 := Tryz.zeroValue0
 t2 := Tryz.underlying2
 a2 := Tryz.isAgg2
 z2 := Tryz.sizeOf2
 v2 := Tryz.zeroValue2
 t3 := Tryz.underlying3
 a3 := Tryz.isAgg3
 z3 := Tryz.sizeOf3
 v3 := Tryz.zeroValue3
 t4 := Tryz.underlying4
 a4 := Tryz.isAgg4
 z4 := Tryz.sizeOf4
 v4 := Tryz.zeroValue4
 t5 := Tryz.underlying5
 a5 := Tryz.isAgg5
 z5 := Tryz.sizeOf5
 v5 := Tryz.zeroValue5
 t9 := Tryz.underlying9
 a9 := Tryz.isAgg9
 z9 := Tryz.sizeOf9
 v9 := Tryz.zeroValue9
 t20 := Tryz.underlying20
 a20 := Tryz.isAgg20
 z20 := Tryz.sizeOf20
 v20 := Tryz.zeroValue20
 t21 := Tryz.underlying21
 a21 := Tryz.isAgg21
 z21 := Tryz.sizeOf21
 v21 := Tryz.zeroValue21
 t37 := Tryz.underlying86
 a37 := Tryz.isAgg86
 z37 := Tryz.sizeOf86
 v37 := Tryz.zeroValue86
 t46 := Tryz.underlying182
 a46 := Tryz.isAgg182
 z46 := Tryz.sizeOf182
 v46 := Tryz.zeroValue182
 t51 := Tryz.underlying200
 a51 := Tryz.isAgg200
 z51 := Tryz.sizeOf200
 v51 := Tryz.zeroValue200
 t53 := Tryz.underlying24
 a53 := Tryz.isAgg24
 z53 := Tryz.sizeOf24
 v53 := Tryz.zeroValue24
 t75 := Tryz.underlying112
 a75 := Tryz.isAgg112
 z75 := Tryz.sizeOf112
 v75 := Tryz.zeroValue112
 t76 := Tryz.underlying328
 a76 := Tryz.isAgg328
 z76 := Tryz.sizeOf328
 v76 := Tryz.zeroValue328
 t85 := Tryz.underlying339
 a85 := Tryz.isAgg339
 z85 := Tryz.sizeOf339
 v85 := Tryz.zeroValue339
 t127 := Tryz.underlying347
 a127 := Tryz.isAgg347
 z127 := Tryz.sizeOf347
 v127 := Tryz.zeroValue347
 t143 := Tryz.underlying244
 a143 := Tryz.isAgg244
 z143 := Tryz.sizeOf244
 v143 := Tryz.zeroValue244
 t145 := Tryz.underlying246
 a145 := Tryz.isAgg246
 z145 := Tryz.sizeOf246
 v145 := Tryz.zeroValue246
 t167 := Tryz.underlying338
 a167 := Tryz.isAgg338
 z167 := Tryz.sizeOf338
 v167 := Tryz.zeroValue338
 t168 := Tryz.underlying341
 a168 := Tryz.isAgg341
 z168 := Tryz.sizeOf341
 v168 := Tryz.zeroValue341
 t171 := Tryz.underlying275
 a171 := Tryz.isAgg275
 z171 := Tryz.sizeOf275
 v171 := Tryz.zeroValue275
 t173 := Tryz.underlying278
 a173 := Tryz.isAgg278
 z173 := Tryz.sizeOf278
 v173 := Tryz.zeroValue278
 t175 := Tryz.underlying186
 a175 := Tryz.isAgg186
 z175 := Tryz.sizeOf186
 v175 := Tryz.zeroValue186
 t210 := Tryz.underlying346
 a210 := Tryz.isAgg346
 z210 := Tryz.sizeOf346
 v210 := Tryz.zeroValue346
 t212 := Tryz.underlying316
 a212 := Tryz.isAgg316
 z212 := Tryz.sizeOf316
 v212 := Tryz.zeroValue316
 t213 := Tryz.underlying317
 a213 := Tryz.isAgg317
 z213 := Tryz.sizeOf317
 t232 := Tryz.underlying336
 a232 := Tryz.isAgg336
 z232 := Tryz.sizeOf336
 v232 := Tryz.zeroValue336
 t233 := Tryz.underlying337
 a233 := Tryz.isAgg337
 z233 := Tryz.sizeOf337
 v233 := Tryz.zeroValue337
 g15 := by kernel_rfl
 g16 := by kernel_rfl
 g17 := by kernel_rfl
 g18 := by kernel_rfl
 g19 := by kernel_rfl
 t80 := Tryz.underlying348
 a80 := Tryz.isAgg348
 z80 := Tryz.sizeOf348
 v80 := Tryz.zeroValue348
 i0 := by kernel_rfl
 i2 := by kernel_rfl
 i3 := by kernel_rfl
 i4 := by kernel_rfl
 i5 := by kernel_rfl
 i9 := by kernel_rfl
 i20 := by kernel_rfl
 i21 := by kernel_rfl
 i37 := by kernel_rfl
 i46 := by kernel_rfl
 i51 := by kernel_rfl
 i53 := by kernel_rfl
 i75 := by kernel_rfl
 i76 := by kernel_rfl
 i80 := by kernel_rfl
 i85 := by kernel_rfl
 i127 := by kernel_rfl
 i143 := by kernel_rfl
 i145 := by kernel_rfl
 i167 := by kernel_rfl
 i168 := by kernel_rfl
 i171 := by kernel_rfl
 i173 := by kernel_rfl
 i175 := by kernel_rfl
 i210 := by kernel_rfl
 i212 := by kernel_rfl
 i232 := by kernel_rfl
 i233 := by kernel_rfl
 m15 := by kernel_rfl
 m16 := by kernel_rfl
 m17 := by kernel_rfl
 m18 := by kernel_rfl
 m19 := by kernel_rfl
 c0 := by kernel_rfl
 c2 := by kernel_rfl
 c3 := by kernel_rfl
 c4 := by kernel_rfl
 c5 := by kernel_rfl
 c9 := by kernel_rfl
 c20 := by kernel_rfl
 c21 := by kernel_rfl
 c37 := by kernel_rfl
 c46 := by kernel_rfl
 c51 := by kernel_rfl
 c53 := by kernel_rfl
 c75 := by kernel_rfl
 c76 := by kernel_rfl
 c80 := by kernel_rfl
 c85 := by kernel_rfl
 c127 := by kernel_rfl
 c143 := by kernel_rfl
 c145 := by kernel_rfl
 c167 := by kernel_rfl
 c168 := by kernel_rfl
 c171 := by kernel_rfl
 c173 := by kernel_rfl
 c175 := by kernel_rfl
 c210 := by kernel_rfl
 c212 := by kernel_rfl
 c213 := by kernel_rfl
 c232 := by kernel_rfl
 c233 := by kernel_rfl }
open Go.RowKit in
theorem Tryz.strconv_Atoi_ok (s : ByteArray) (hmax : s.size ≤ 9223372036854775806) (v : Int) (h : Lib.atoiAll s.data.toList = .ok v) (w : World) :
 Calls Tryz.prog 207 #[.string s] w fun e w' => e = .returned (.tuple #[.int .i64 v, .nilIface]) ∧ (w' = w ∨ ∃ t, w' = Lib.bytesWorld w 5 t) := Any.strconv_Atoi_ok Tryz.laysC172 s hmax v h w
open Go.RowKit in
theorem Tryz.strconv_Atoi_syntax_var (s : ByteArray) (hlim : s.size ≤ 281474976710656) (hno : ∀ v, Lib.atoiAll s.data.toList ≠ .ok v) (hnr : Lib.atoiAll s.data.toList ≠ .range) (tp : TypeId) (p : Value) (w : World) (hvar : w.var? Tryz.prog "strconv.ErrSyntax" = some #[.iface tp p]) :
  Calls Tryz.prog 207 #[.string s] w fun e w' => ∃ N, e = .returned (.tuple #[.int .i64 0, .iface 341 (.pointer (some ⟨N, 0, none⟩))]) ∧ w.heap.size ≤ N ∧ w'.heap[N]? = some (.cells #[.string ⟨#[65, 116, 111, 105]⟩, .string s, .iface tp p] 346 (0, 0)) ∧ Below w.heap.size w w' := by
 rcases h : Lib.atoiAll s.data.toList with v | _ | _
 ·exact absurd h (hno v)
 ·exact Any.strconv_Atoi_syntax_var Tryz.laysC172 s hlim h tp p w hvar
 ·exact absurd h hnr
open Go.RowKit in
theorem Tryz.strconv_Atoi_range_var (s : ByteArray) (hlim : s.size ≤ 281474976710656) (h : Lib.atoiAll s.data.toList = .range) (tp : TypeId) (p : Value) (w : World) (hvar : w.var? Tryz.prog "strconv.ErrRange" = some #[.iface tp p]) :
 Calls Tryz.prog 207 #[.string s] w fun e w' => ∃ N, e = .returned (.tuple #[.int .i64 (Lib.atoiSat s.data.toList), .iface 341 (.pointer (some ⟨N, 0, none⟩))]) ∧ w.heap.size ≤ N ∧ w'.heap[N]? = some (.cells #[.string ⟨#[65, 116, 111, 105]⟩, .string s, .iface tp p] 346 (0, 0)) ∧ Below w.heap.size w w' := Any.strconv_Atoi_range_var Tryz.laysC172 s hlim h tp p w hvar
def Tryz.lays99_ren : Go.Shelf.Ren := ⟨fun | 99 => 97 | 206 => 141 | n => n, fun | 9 => 9 | 4 => 4 | 3 => 3 | n => n, fun | n => n⟩
theorem Tryz.lays99 : Go.Proofs.Lays.n99 Tryz.prog Tryz.lays99_ren := {
 mixed := by kernel_rfl
 f99 := Tryz.func97.trans (congrArg some (by kernel_rfl))
 f206 := Tryz.func141.trans (congrArg some (by kernel_rfl))
 t3 := Tryz.underlying3
 a3 := Tryz.isAgg3
 z3 := Tryz.sizeOf3
 v3 := Tryz.zeroValue3
 t4 := Tryz.underlying4
 a4 := Tryz.isAgg4
 z4 := Tryz.sizeOf4
 v4 := Tryz.zeroValue4
 t9 := Tryz.underlying9
 a9 := Tryz.isAgg9
 z9 := Tryz.sizeOf9
 v9 := Tryz.zeroValue9 }
open Go.RowKit Go.Lib in
theorem Tryz.strings_HasPrefix (s p : ByteArray) (w : World) :
 Calls Tryz.prog 97 #[.string s, .string p] w fun e w' => e = .returned (.bool (Lib.hasPrefix s.data.toList p.data.toList)) ∧ w' = w := Any.strings_HasPrefix Tryz.lays99 s p w
def Tryz.lays197_ren : Go.Shelf.Ren := ⟨fun | 197 => 143 | 260 => 173 | n => n, fun | 9 => 9 | 21 => 21 | 3 => 3 | 4 => 4 | 5 => 5 | 105 => 247 | 119 => 323 | 0 => 0 | 46 => 182 | 139 => 326 | 138 => 325 | n => n, fun | 3 => 2 | 4 => 3 | n => n⟩
theorem Tryz.lays197 : Go.Proofs.Lays.n197 Tryz.prog Tryz.lays197_ren := {
 mixed := by kernel_rfl
 f197 := Tryz.func143.trans (congrArg some (by kernel_rfl))
 f260 := Tryz.func173.trans (congrArg some (by kernel_rfl))
 t0 := Tryz.underlying0
 a0 := Tryz.isAgg0
 z0 := Tryz.sizeOf0
 v0 := Tryz.zeroValue0
 t3 := Tryz.underlying3
 a3 := Tryz.isAgg3
 z3 := Tryz.sizeOf3
 v3 := Tryz.zeroValue3
 t4 := Tryz.underlying4
 a4 := Tryz.isAgg4
 z4 := Tryz.sizeOf4
 v4 := Tryz.zeroValue4
 t5 := Tryz.underlying5
 a5 := Tryz.isAgg5
 z5 := Tryz.sizeOf5
 v5 := Tryz.zeroValue5
 t9 := Tryz.underlying9
 a9 := Tryz.isAgg9
 z9 := Tryz.sizeOf9
 v9 := Tryz.zeroValue9
 t21 := Tryz.underlying21
 a21 := Tryz.isAgg21
 z21 := Tryz.sizeOf21
 v21 := Tryz.zeroValue21
 t46 := Tryz.underlying182
 a46 := Tryz.isAgg182
 z46 := Tryz.sizeOf182
 v46 := Tryz.zeroValue182
 t105 := Tryz.underlying247
 a105 := Tryz.isAgg247
 z105 := Tryz.sizeOf247
 v105 := Tryz.zeroValue247
 t119 := Tryz.underlying323
 a119 := Tryz.isAgg323
 z119 := Tryz.sizeOf323
 t138 := Tryz.underlying325
 a138 := Tryz.isAgg325
 z138 := Tryz.sizeOf325
 v138 := Tryz.zeroValue325
 t139 := Tryz.underlying326
 a139 := Tryz.isAgg326
 z139 := Tryz.sizeOf326
 v139 := Tryz.zeroValue326
 g3 := by kernel_rfl
 g4 := by kernel_rfl }
open Go.RowKit Go.Lib in
theorem Tryz.utf8_DecodeRuneInString (s : ByteArray) (w : World) (hT : Lib.Utf8Tabs 2 3 w) :
 Calls Tryz.prog 143 #[.string s] w fun e w' => e = .returned (.tuple #[.int .i32 (Lib.decodeGo s).1, .int .i64 (Lib.decodeGo s).2]) ∧ Below w.heap.size w w' := Any.utf8_DecodeRuneInString Tryz.lays197 s w hT
def Tryz.lays229_ren : Go.Shelf.Ren := ⟨fun | 229 => 150 | n => n, fun | 9 => 9 | 40 => 249 | 31 => 33 | 152 => 298 | 3 => 3 | 0 => 0 | 4 => 4 | 21 => 21 | 154 => 300 | n => n, fun | n => n⟩
theorem Tryz.lays229 : Go.Proofs.Lays.n229 Tryz.prog Tryz.lays229_ren := {
 mixed := by kernel_rfl
 f229 := Tryz.func150.trans (congrArg some (by kernel_rfl))
 t0 := Tryz.underlying0
 a0 := Tryz.isAgg0
 z0 := Tryz.sizeOf0
 v0 := Tryz.zeroValue0
 t3 := Tryz.underlying3
 a3 := Tryz.isAgg3
 z3 := Tryz.sizeOf3
 v3 := Tryz.zeroValue3
 t4 := Tryz.underlying4
 a4 := Tryz.isAgg4
 z4 := Tryz.sizeOf4
 v4 := Tryz.zeroValue4
 t9 := Tryz.underlying9
 a9 := Tryz.isAgg9
 z9 := Tryz.sizeOf9
 v9 := Tryz.zeroValue9
 t21 := Tryz.underlying21
 a21 := Tryz.isAgg21
 z21 := Tryz.sizeOf21
 v21 := Tryz.zeroValue21
 t31 := Tryz.underlying33
 a31 := Tryz.isAgg33
 z31 := Tryz.sizeOf33
 v31 := Tryz.zeroValue33
 t40 := Tryz.underlying249
 a40 := Tryz.isAgg249
 z40 := Tryz.sizeOf249
 v40 := Tryz.zeroValue249
 t152 := Tryz.underlying298
 a152 := Tryz.isAgg298
 z152 := Tryz.sizeOf298
 v152 := Tryz.zeroValue298
 t154 := Tryz.underlying300
 a154 := Tryz.isAgg300
 z154 := Tryz.sizeOf300
 v154 := Tryz.zeroValue300 }
open Go.RowKit Go.Lib in
theorem Tryz.strings_FieldsFunc_grows (g : Nat) (lb : Array Value) (eg : ∀ args w, (callFunc g args).run Tryz.prog w = .ok (.enter g args) w) (p : Nat → Bool) (s : ByteArray) (w : World) (hs : s.size ≤ 4294967296) (hp : PredGrows Tryz.prog g lb p w) :
 Calls Tryz.prog 150 #[.string s, .func (.func g) #[] lb] w fun e w' => ∃ A, e = .returned (.slice (some ⟨A, 0, none⟩) (Lib.goFieldsP p s).length (Lib.goFieldsP p s).length) ∧ w.heap.size ≤ A ∧
  w'.ownsRow w.heap.size 9 1 (.slice (some ⟨A, 0, none⟩) (Lib.goFieldsP p s).length (Lib.goFieldsP p s).length) (Lib.goFieldsP p s).length ((Lib.goFieldsP p s).map Value.string) ∧ Below w.heap.size w w' := Any.strings_FieldsFunc_grows Tryz.lays229 g lb eg p s w hs hp (by kernel_rfl) (by kernel_rfl)
end Go.Proofs
