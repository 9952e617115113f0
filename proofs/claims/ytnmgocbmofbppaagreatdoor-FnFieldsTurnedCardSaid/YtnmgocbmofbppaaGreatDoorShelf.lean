/-
  DERIVED: THE SHELF's CONTRACTS AT THIS DUMP, IN PLAIN WORDS (tools/lay-plain.mjs out of 'YtnmgocbmofbppaaGreatDoorSh.lean', which tools/lay-shelf.mjs wrote): THE SAME DECLARATIONS UNDER THE SAME NAMES: 'import', 'namespace', 'open', 'def', 'theorem' AND NOTHING ELSE: no command of the shelf's: FOR A HAND-IN. Each laying: the table of numbers ('.._ren') and one theorem, a field a fact of the dump's own or the kernel's comparison; each contract: ONE APPLICATION.
-/
import Derived.Shelf.LaysM
import Derived.Shelf.Small.Utf8
import Derived.Shelf.Strconv.Bsearch
import Derived.Shelf.Strconv.Escaped
import Derived.Shelf.Strconv.IsPrint
import Derived.Shelf.Strconv.IsPrint16
import Derived.Shelf.Strconv.IsPrint32
import Derived.Shelf.Strconv.Itoa0
import Derived.Shelf.Strconv.Quote
import Derived.Shelf.Strconv.Quoted
import Derived.Shelf.Unicode.DecodeAny
import Derived.Shelf.Unicode.DecodeSlow
import Derived.Shelf.Unicode.ExclAny
import Derived.Shelf.Unicode.Is16Any
import Derived.Shelf.Unicode.Is16White
import Derived.Shelf.Unicode.Is32Any
import Derived.Shelf.Unicode.IsSpaceAny
import Derived.Shelf.Unicode.Latin
import Derived.Shelf.Unicode.PredsAny
import Derived.Shelf.Unicode.PredsPay
import Derived.Shelf.Unicode.Props
import Derived.Shelf.Unicode.PropsLaid
import Derived.Shelf.Unicode.ValidAny
import Derived.Shelf.Utf8.AppendRune
import Derived.Shelf.Utf8.AppendRunePlain
import Derived.Test.YtnmgocbmofbppaaGreatDoorProg
namespace Go.Proofs
open Go.Shelf
def Tryz.lays119_ren : Go.Shelf.Ren := ⟨fun | 119 => 88 | n => n, fun | 21 => 21 | 4 => 4 | n => n, fun | n => n⟩
theorem Tryz.lays119 : Go.Proofs.Lays.n119 Tryz.prog Tryz.lays119_ren := {
  mixed := by kernel_rfl
  f119 := Tryz.func88.trans (congrArg some (by kernel_rfl))
  t4 := Tryz.underlying4
  a4 := Tryz.isAgg4
  z4 := Tryz.sizeOf4
  v4 := Tryz.zeroValue4
  t21 := Tryz.underlying21
  a21 := Tryz.isAgg21
  z21 := Tryz.sizeOf21
  v21 := Tryz.zeroValue21 }
/-- utf8.ValidRune: "ValidRune reports whether r can be legally encoded as UTF-8. Code points that are out of range or a surrogate half are illegal.": IT RETURNS 'Lib.validRune r'; the world is as it was. (LAID: no walk: one application.) -/
theorem Tryz.utf8_ValidRune (r : Int) (w : World) :
    Calls Tryz.prog 88 #[.int .i32 r] w fun e w' => e = .returned (.bool (Lib.validRune r)) ∧ w' = w := Any.utf8_ValidRune Tryz.lays119 r w
def Tryz.lays242_ren : Go.Shelf.Ren := ⟨fun | 242 => 83 | 278 => 89 | n => n, fun | 37 => 159 | 21 => 21 | 51 => 147 | 4 => 4 | 5 => 5 | 46 => 172 | n => n, fun | n => n⟩
theorem Tryz.lays242 : Go.Proofs.Lays.n242 Tryz.prog Tryz.lays242_ren := {
  mixed := by kernel_rfl
  f242 := Tryz.func83.trans (congrArg some (by kernel_rfl))
  f278 := Tryz.func89.trans (congrArg some (by kernel_rfl))
  t4 := Tryz.underlying4
  a4 := Tryz.isAgg4
  z4 := Tryz.sizeOf4
  v4 := Tryz.zeroValue4
  t5 := Tryz.underlying5
  a5 := Tryz.isAgg5
  z5 := Tryz.sizeOf5
  v5 := Tryz.zeroValue5
  t21 := Tryz.underlying21
  a21 := Tryz.isAgg21
  z21 := Tryz.sizeOf21
  v21 := Tryz.zeroValue21
  t37 := Tryz.underlying159
  a37 := Tryz.isAgg159
  z37 := Tryz.sizeOf159
  v37 := Tryz.zeroValue159
  t46 := Tryz.underlying172
  a46 := Tryz.isAgg172
  z46 := Tryz.sizeOf172
  v46 := Tryz.zeroValue172
  t51 := Tryz.underlying147
  a51 := Tryz.isAgg147
  z51 := Tryz.sizeOf147
  v51 := Tryz.zeroValue147 }
open Go.RowKit in
/-- unicode/utf8.AppendRune: "AppendRune appends the UTF-8 encoding of r to the end of p and returns the extended buffer. If the rune is out of range, it appends the encoding of RuneError.": ONTO A ROW OF BYTES THAT THE CALL OWNS (its head frozen or not): EVERY int32: 'Lib.runeCells r' goes in behind what the row holds; the world: one new block (the bytes as the call's variadic argument), then what 'append' does to the row. (LAID: no walk: one application.) -/
theorem Tryz.utf8_AppendRune_plain (B : Nat) (v : Value) (n : Nat) (xs : List Value) (r : Int) (hr0 : -2147483648 ≤ r) (hr1 : r ≤ 2147483647) (w : World) (hown : w.ownsRow B 5 1 v n xs) (hlen : n + 4 ≤ 140737488355328) (hBw : B ≤ w.heap.size) :
    Calls Tryz.prog 83 #[v, .int .i32 r] w fun e w' => ∃ v', e = .returned v' ∧ w'.ownsRow B 5 1 v' (n + (Lib.runeCells r).length) (xs ++ Lib.runeCells r) ∧ ∃ o, (w.alloc o).grownBy w' v.ownBlock := Any.utf8_AppendRune_plain Tryz.lays242 (by kernel_rfl) B v n xs r hr0 hr1 w hown hlen hBw
def Tryz.lays339_ren : Go.Shelf.Ren := ⟨fun | 339 => 90 | 345 => 92 | 346 => 93 | n => n, fun | 21 => 21 | 4 => 4 | 49 => 165 | 234 => 188 | 131 => 189 | 3 => 3 | 0 => 0 | 51 => 147 | 236 => 191 | 46 => 172 | n => n, fun | 20 => 9 | 21 => 10 | 22 => 11 | 23 => 12 | n => n⟩
theorem Tryz.lays339 : Go.Proofs.Lays.n339 Tryz.prog Tryz.lays339_ren := {
  mixed := by kernel_rfl
  f339 := Tryz.func90.trans (congrArg some (by kernel_rfl))
  f345 := Tryz.func92.trans (congrArg some (by kernel_rfl))
  f346 := Tryz.func93.trans (congrArg some (by kernel_rfl))
  t0 := Tryz.underlying0
  a0 := Tryz.isAgg0
  z0 := Tryz.sizeOf0
  v0 := Tryz.zeroValue0
  t3 := Tryz.underlying3
  a3 := Tryz.isAgg3
  z3 := Tryz.sizeOf3
  v3 := Tryz.zeroValue3
  t4 := Tryz.underlying4
  a4 := Tryz.isAgg4
  z4 := Tryz.sizeOf4
  v4 := Tryz.zeroValue4
  t21 := Tryz.underlying21
  a21 := Tryz.isAgg21
  z21 := Tryz.sizeOf21
  v21 := Tryz.zeroValue21
  t46 := Tryz.underlying172
  a46 := Tryz.isAgg172
  z46 := Tryz.sizeOf172
  v46 := Tryz.zeroValue172
  t49 := Tryz.underlying165
  a49 := Tryz.isAgg165
  z49 := Tryz.sizeOf165
  v49 := Tryz.zeroValue165
  t51 := Tryz.underlying147
  a51 := Tryz.isAgg147
  z51 := Tryz.sizeOf147
  v51 := Tryz.zeroValue147
  t131 := Tryz.underlying189
  a131 := Tryz.isAgg189
  z131 := Tryz.sizeOf189
  v131 := Tryz.zeroValue189
  t234 := Tryz.underlying188
  a234 := Tryz.isAgg188
  z234 := Tryz.sizeOf188
  v234 := Tryz.zeroValue188
  t236 := Tryz.underlying191
  a236 := Tryz.isAgg191
  z236 := Tryz.sizeOf191
  v236 := Tryz.zeroValue191
  g20 := by kernel_rfl
  g21 := by kernel_rfl
  g22 := by kernel_rfl
  g23 := by kernel_rfl }
def Tryz.lays177_ren : Go.Shelf.Ren := ⟨fun | 177 => 48 | 250 => 70 | 289 => 76 | 197 => 60 | 323 => 84 | 260 => 72 | 339 => 90 | 340 => 91 | 242 => 83 | 119 => 88 | 345 => 92 | 346 => 93 | 278 => 89 | n => n, fun | 9 => 9 | 5 => 5 | 4 => 4 | 3 => 3 | 37 => 159 | 21 => 21 | 105 => 134 | 46 => 172 | 119 => 148 | 0 => 0 | 139 => 175 | 138 => 174 | 49 => 165 | 234 => 188 | 131 => 189 | 51 => 147 | 236 => 191 | n => n, fun | 3 => 6 | 4 => 7 | 20 => 9 | 21 => 10 | 22 => 11 | 23 => 12 | 24 => 13 | n => n⟩
theorem Tryz.lays177 : Go.Proofs.Lays.n177 Tryz.prog Tryz.lays177_ren := {
  mixed := by kernel_rfl
  f119 := Tryz.func88.trans (congrArg some (by kernel_rfl))
  f177 := Tryz.func48.trans (congrArg some (by kernel_rfl))
  f197 := Tryz.func60.trans (congrArg some (by kernel_rfl))
  f242 := Tryz.func83.trans (congrArg some (by kernel_rfl))
  f250 := Tryz.func70.trans (congrArg some (by kernel_rfl))
  f260 := Tryz.func72.trans (congrArg some (by kernel_rfl))
  f278 := Tryz.func89.trans (congrArg some (by kernel_rfl))
  f289 := Tryz.func76.trans (congrArg some (by kernel_rfl))
  f323 := Tryz.func84.trans (congrArg some (by kernel_rfl))
  f339 := Tryz.func90.trans (congrArg some (by kernel_rfl))
  f340 := Tryz.func91.trans (congrArg some (by kernel_rfl))
  f345 := Tryz.func92.trans (congrArg some (by kernel_rfl))
  f346 := Tryz.func93.trans (congrArg some (by kernel_rfl))
  t0 := Tryz.underlying0
  a0 := Tryz.isAgg0
  z0 := Tryz.sizeOf0
  v0 := Tryz.zeroValue0
  t3 := Tryz.underlying3
  a3 := Tryz.isAgg3
  z3 := Tryz.sizeOf3
  v3 := Tryz.zeroValue3
  t4 := Tryz.underlying4
  a4 := Tryz.isAgg4
  z4 := Tryz.sizeOf4
  v4 := Tryz.zeroValue4
  t5 := Tryz.underlying5
  a5 := Tryz.isAgg5
  z5 := Tryz.sizeOf5
  v5 := Tryz.zeroValue5
  t9 := Tryz.underlying9
  a9 := Tryz.isAgg9
  z9 := Tryz.sizeOf9
  v9 := Tryz.zeroValue9
  t21 := Tryz.underlying21
  a21 := Tryz.isAgg21
  z21 := Tryz.sizeOf21
  v21 := Tryz.zeroValue21
  t37 := Tryz.underlying159
  a37 := Tryz.isAgg159
  z37 := Tryz.sizeOf159
  v37 := Tryz.zeroValue159
  t46 := Tryz.underlying172
  a46 := Tryz.isAgg172
  z46 := Tryz.sizeOf172
  v46 := Tryz.zeroValue172
  t49 := Tryz.underlying165
  a49 := Tryz.isAgg165
  z49 := Tryz.sizeOf165
  v49 := Tryz.zeroValue165
  t51 := Tryz.underlying147
  a51 := Tryz.isAgg147
  z51 := Tryz.sizeOf147
  v51 := Tryz.zeroValue147
  t105 := Tryz.underlying134
  a105 := Tryz.isAgg134
  z105 := Tryz.sizeOf134
  v105 := Tryz.zeroValue134
  t119 := Tryz.underlying148
  a119 := Tryz.isAgg148
  z119 := Tryz.sizeOf148
  t131 := Tryz.underlying189
  a131 := Tryz.isAgg189
  z131 := Tryz.sizeOf189
  v131 := Tryz.zeroValue189
  t138 := Tryz.underlying174
  a138 := Tryz.isAgg174
  z138 := Tryz.sizeOf174
  v138 := Tryz.zeroValue174
  t139 := Tryz.underlying175
  a139 := Tryz.isAgg175
  z139 := Tryz.sizeOf175
  v139 := Tryz.zeroValue175
  t234 := Tryz.underlying188
  a234 := Tryz.isAgg188
  z234 := Tryz.sizeOf188
  v234 := Tryz.zeroValue188
  t236 := Tryz.underlying191
  a236 := Tryz.isAgg191
  z236 := Tryz.sizeOf191
  v236 := Tryz.zeroValue191
  g3 := by kernel_rfl
  g4 := by kernel_rfl
  g20 := by kernel_rfl
  g21 := by kernel_rfl
  g22 := by kernel_rfl
  g23 := by kernel_rfl
  g24 := by kernel_rfl }
open Go.RowKit in
/-- **strconv.Quote AT EVERY STRING, VALID UTF-8 OR NOT** (of at most some 2^43 bytes: ten bytes may come of one): 'strOfNums (Lib.quoteZ T s)': Derived/Lib/QuoteLoop.lean: a row of Lean a statement of Go. Of what was there nothing has turned. (LAID: no walk: one application.) -/
theorem Tryz.strconv_Quote (T : Lib.PrintTabs) (s : ByteArray) (w : World) (hlen : 10 * s.size + 12 ≤ 140737488355328) (hT : Lib.PrintTabsAt 9 10 11 12 T w) (hU : Lib.Utf8Tabs 6 7 w) :
    Calls Tryz.prog 48 #[.string s] w fun e w' => e = .returned (.string (strOfNums (Lib.quoteZ T s))) ∧ Below w.heap.size w w' := Any.strconv_Quote Tryz.lays177 (by kernel_rfl) T s w hlen hT hU
def Tryz.lays198_ren : Go.Shelf.Ren := ⟨fun | 198 => 50 | 261 => 71 | 311 => 77 | 312 => 78 | n => n, fun | 21 => 21 | 4 => 4 | 141 => 150 | 0 => 0 | 196 => 164 | 193 => 161 | 3 => 3 | 51 => 147 | 198 => 167 | 49 => 165 | 194 => 162 | 201 => 170 | 226 => 183 | 46 => 172 | 227 => 184 | n => n, fun | 5 => 3 | n => n⟩
theorem Tryz.lays198 : Go.Proofs.Lays.n198 Tryz.prog Tryz.lays198_ren := {
  mixed := by kernel_rfl
  f198 := Tryz.func50.trans (congrArg some (by kernel_rfl))
  f261 := Tryz.func71.trans (congrArg some (by kernel_rfl))
  f311 := Tryz.func77.trans (congrArg some (by kernel_rfl))
  f312 := Tryz.func78.trans (congrArg some (by kernel_rfl))
  t0 := Tryz.underlying0
  a0 := Tryz.isAgg0
  z0 := Tryz.sizeOf0
  v0 := Tryz.zeroValue0
  t3 := Tryz.underlying3
  a3 := Tryz.isAgg3
  z3 := Tryz.sizeOf3
  v3 := Tryz.zeroValue3
  t4 := Tryz.underlying4
  a4 := Tryz.isAgg4
  z4 := Tryz.sizeOf4
  v4 := Tryz.zeroValue4
  t21 := Tryz.underlying21
  a21 := Tryz.isAgg21
  z21 := Tryz.sizeOf21
  v21 := Tryz.zeroValue21
  t46 := Tryz.underlying172
  a46 := Tryz.isAgg172
  z46 := Tryz.sizeOf172
  v46 := Tryz.zeroValue172
  t49 := Tryz.underlying165
  a49 := Tryz.isAgg165
  z49 := Tryz.sizeOf165
  v49 := Tryz.zeroValue165
  t51 := Tryz.underlying147
  a51 := Tryz.isAgg147
  z51 := Tryz.sizeOf147
  v51 := Tryz.zeroValue147
  t141 := Tryz.underlying150
  a141 := Tryz.isAgg150
  z141 := Tryz.sizeOf150
  v141 := Tryz.zeroValue150
  t193 := Tryz.underlying161
  a193 := Tryz.isAgg161
  z193 := Tryz.sizeOf161
  v193 := Tryz.zeroValue161
  t194 := Tryz.underlying162
  a194 := Tryz.isAgg162
  z194 := Tryz.sizeOf162
  v194 := Tryz.zeroValue162
  t196 := Tryz.underlying164
  a196 := Tryz.isAgg164
  z196 := Tryz.sizeOf164
  v196 := Tryz.zeroValue164
  t198 := Tryz.underlying167
  a198 := Tryz.isAgg167
  z198 := Tryz.sizeOf167
  v198 := Tryz.zeroValue167
  t201 := Tryz.underlying170
  a201 := Tryz.isAgg170
  z201 := Tryz.sizeOf170
  v201 := Tryz.zeroValue170
  t226 := Tryz.underlying183
  a226 := Tryz.isAgg183
  z226 := Tryz.sizeOf183
  v226 := Tryz.zeroValue183
  t227 := Tryz.underlying184
  a227 := Tryz.isAgg184
  z227 := Tryz.sizeOf184
  v227 := Tryz.zeroValue184
  g5 := by kernel_rfl }
def Tryz.lays200_ren : Go.Shelf.Ren := ⟨fun | 200 => 49 | 261 => 71 | 311 => 77 | 312 => 78 | n => n, fun | 21 => 21 | 4 => 4 | 51 => 147 | 5 => 5 | 119 => 148 | 0 => 0 | 141 => 150 | 196 => 164 | 193 => 161 | 3 => 3 | 198 => 167 | 49 => 165 | 194 => 162 | 201 => 170 | 226 => 183 | 46 => 172 | 227 => 184 | n => n, fun | 7 => 1 | 8 => 2 | n => n⟩
theorem Tryz.lays200 : Go.Proofs.Lays.n200 Tryz.prog Tryz.lays200_ren := {
  mixed := by kernel_rfl
  f200 := Tryz.func49.trans (congrArg some (by kernel_rfl))
  f261 := Tryz.func71.trans (congrArg some (by kernel_rfl))
  f311 := Tryz.func77.trans (congrArg some (by kernel_rfl))
  f312 := Tryz.func78.trans (congrArg some (by kernel_rfl))
  t0 := Tryz.underlying0
  a0 := Tryz.isAgg0
  z0 := Tryz.sizeOf0
  v0 := Tryz.zeroValue0
  t3 := Tryz.underlying3
  a3 := Tryz.isAgg3
  z3 := Tryz.sizeOf3
  v3 := Tryz.zeroValue3
  t4 := Tryz.underlying4
  a4 := Tryz.isAgg4
  z4 := Tryz.sizeOf4
  v4 := Tryz.zeroValue4
  t5 := Tryz.underlying5
  a5 := Tryz.isAgg5
  z5 := Tryz.sizeOf5
  v5 := Tryz.zeroValue5
  t21 := Tryz.underlying21
  a21 := Tryz.isAgg21
  z21 := Tryz.sizeOf21
  v21 := Tryz.zeroValue21
  t46 := Tryz.underlying172
  a46 := Tryz.isAgg172
  z46 := Tryz.sizeOf172
  v46 := Tryz.zeroValue172
  t49 := Tryz.underlying165
  a49 := Tryz.isAgg165
  z49 := Tryz.sizeOf165
  v49 := Tryz.zeroValue165
  t51 := Tryz.underlying147
  a51 := Tryz.isAgg147
  z51 := Tryz.sizeOf147
  v51 := Tryz.zeroValue147
  t119 := Tryz.underlying148
  a119 := Tryz.isAgg148
  z119 := Tryz.sizeOf148
  t141 := Tryz.underlying150
  a141 := Tryz.isAgg150
  z141 := Tryz.sizeOf150
  v141 := Tryz.zeroValue150
  t193 := Tryz.underlying161
  a193 := Tryz.isAgg161
  z193 := Tryz.sizeOf161
  v193 := Tryz.zeroValue161
  t194 := Tryz.underlying162
  a194 := Tryz.isAgg162
  z194 := Tryz.sizeOf162
  v194 := Tryz.zeroValue162
  t196 := Tryz.underlying164
  a196 := Tryz.isAgg164
  z196 := Tryz.sizeOf164
  v196 := Tryz.zeroValue164
  t198 := Tryz.underlying167
  a198 := Tryz.isAgg167
  z198 := Tryz.sizeOf167
  v198 := Tryz.zeroValue167
  t201 := Tryz.underlying170
  a201 := Tryz.isAgg170
  z201 := Tryz.sizeOf170
  v201 := Tryz.zeroValue170
  t226 := Tryz.underlying183
  a226 := Tryz.isAgg183
  z226 := Tryz.sizeOf183
  v226 := Tryz.zeroValue183
  t227 := Tryz.underlying184
  a227 := Tryz.isAgg184
  z227 := Tryz.sizeOf184
  v227 := Tryz.zeroValue184
  g7 := by kernel_rfl
  g8 := by kernel_rfl }
def Tryz.lays201_ren : Go.Shelf.Ren := ⟨fun | 201 => 61 | 261 => 71 | 311 => 77 | 312 => 78 | n => n, fun | 21 => 21 | 4 => 4 | 51 => 147 | 5 => 5 | 119 => 148 | 0 => 0 | 141 => 150 | 196 => 164 | 193 => 161 | 3 => 3 | 198 => 167 | 49 => 165 | 194 => 162 | 201 => 170 | 226 => 183 | 46 => 172 | 227 => 184 | n => n, fun | 7 => 1 | 9 => 4 | n => n⟩
theorem Tryz.lays201 : Go.Proofs.Lays.n201 Tryz.prog Tryz.lays201_ren := {
  mixed := by kernel_rfl
  f201 := Tryz.func61.trans (congrArg some (by kernel_rfl))
  f261 := Tryz.func71.trans (congrArg some (by kernel_rfl))
  f311 := Tryz.func77.trans (congrArg some (by kernel_rfl))
  f312 := Tryz.func78.trans (congrArg some (by kernel_rfl))
  t0 := Tryz.underlying0
  a0 := Tryz.isAgg0
  z0 := Tryz.sizeOf0
  v0 := Tryz.zeroValue0
  t3 := Tryz.underlying3
  a3 := Tryz.isAgg3
  z3 := Tryz.sizeOf3
  v3 := Tryz.zeroValue3
  t4 := Tryz.underlying4
  a4 := Tryz.isAgg4
  z4 := Tryz.sizeOf4
  v4 := Tryz.zeroValue4
  t5 := Tryz.underlying5
  a5 := Tryz.isAgg5
  z5 := Tryz.sizeOf5
  v5 := Tryz.zeroValue5
  t21 := Tryz.underlying21
  a21 := Tryz.isAgg21
  z21 := Tryz.sizeOf21
  v21 := Tryz.zeroValue21
  t46 := Tryz.underlying172
  a46 := Tryz.isAgg172
  z46 := Tryz.sizeOf172
  v46 := Tryz.zeroValue172
  t49 := Tryz.underlying165
  a49 := Tryz.isAgg165
  z49 := Tryz.sizeOf165
  v49 := Tryz.zeroValue165
  t51 := Tryz.underlying147
  a51 := Tryz.isAgg147
  z51 := Tryz.sizeOf147
  v51 := Tryz.zeroValue147
  t119 := Tryz.underlying148
  a119 := Tryz.isAgg148
  z119 := Tryz.sizeOf148
  t141 := Tryz.underlying150
  a141 := Tryz.isAgg150
  z141 := Tryz.sizeOf150
  v141 := Tryz.zeroValue150
  t193 := Tryz.underlying161
  a193 := Tryz.isAgg161
  z193 := Tryz.sizeOf161
  v193 := Tryz.zeroValue161
  t194 := Tryz.underlying162
  a194 := Tryz.isAgg162
  z194 := Tryz.sizeOf162
  v194 := Tryz.zeroValue162
  t196 := Tryz.underlying164
  a196 := Tryz.isAgg164
  z196 := Tryz.sizeOf164
  v196 := Tryz.zeroValue164
  t198 := Tryz.underlying167
  a198 := Tryz.isAgg167
  z198 := Tryz.sizeOf167
  v198 := Tryz.zeroValue167
  t201 := Tryz.underlying170
  a201 := Tryz.isAgg170
  z201 := Tryz.sizeOf170
  v201 := Tryz.zeroValue170
  t226 := Tryz.underlying183
  a226 := Tryz.isAgg183
  z226 := Tryz.sizeOf183
  v226 := Tryz.zeroValue183
  t227 := Tryz.underlying184
  a227 := Tryz.isAgg184
  z227 := Tryz.sizeOf184
  v227 := Tryz.zeroValue184
  g7 := by kernel_rfl
  g9 := by kernel_rfl }
def Tryz.lays260_ren : Go.Shelf.Ren := ⟨fun | 260 => 72 | n => n, fun | 9 => 9 | 21 => 21 | 3 => 3 | 4 => 4 | 5 => 5 | 119 => 148 | 0 => 0 | 46 => 172 | 139 => 175 | 138 => 174 | n => n, fun | 3 => 6 | 4 => 7 | n => n⟩
theorem Tryz.lays260 : Go.Proofs.Lays.n260 Tryz.prog Tryz.lays260_ren := {
  mixed := by kernel_rfl
  f260 := Tryz.func72.trans (congrArg some (by kernel_rfl))
  t0 := Tryz.underlying0
  a0 := Tryz.isAgg0
  z0 := Tryz.sizeOf0
  v0 := Tryz.zeroValue0
  t3 := Tryz.underlying3
  a3 := Tryz.isAgg3
  z3 := Tryz.sizeOf3
  v3 := Tryz.zeroValue3
  t4 := Tryz.underlying4
  a4 := Tryz.isAgg4
  z4 := Tryz.sizeOf4
  v4 := Tryz.zeroValue4
  t5 := Tryz.underlying5
  a5 := Tryz.isAgg5
  z5 := Tryz.sizeOf5
  v5 := Tryz.zeroValue5
  t9 := Tryz.underlying9
  a9 := Tryz.isAgg9
  z9 := Tryz.sizeOf9
  v9 := Tryz.zeroValue9
  t21 := Tryz.underlying21
  a21 := Tryz.isAgg21
  z21 := Tryz.sizeOf21
  v21 := Tryz.zeroValue21
  t46 := Tryz.underlying172
  a46 := Tryz.isAgg172
  z46 := Tryz.sizeOf172
  v46 := Tryz.zeroValue172
  t119 := Tryz.underlying148
  a119 := Tryz.isAgg148
  z119 := Tryz.sizeOf148
  t138 := Tryz.underlying174
  a138 := Tryz.isAgg174
  z138 := Tryz.sizeOf174
  v138 := Tryz.zeroValue174
  t139 := Tryz.underlying175
  a139 := Tryz.isAgg175
  z139 := Tryz.sizeOf175
  v139 := Tryz.zeroValue175
  g3 := by kernel_rfl
  g4 := by kernel_rfl }
def Tryz.lays197_ren : Go.Shelf.Ren := ⟨fun | 197 => 60 | 260 => 72 | n => n, fun | 9 => 9 | 21 => 21 | 3 => 3 | 4 => 4 | 5 => 5 | 105 => 134 | 119 => 148 | 0 => 0 | 46 => 172 | 139 => 175 | 138 => 174 | n => n, fun | 3 => 6 | 4 => 7 | n => n⟩
theorem Tryz.lays197 : Go.Proofs.Lays.n197 Tryz.prog Tryz.lays197_ren := {
  mixed := by kernel_rfl
  f197 := Tryz.func60.trans (congrArg some (by kernel_rfl))
  f260 := Tryz.func72.trans (congrArg some (by kernel_rfl))
  t0 := Tryz.underlying0
  a0 := Tryz.isAgg0
  z0 := Tryz.sizeOf0
  v0 := Tryz.zeroValue0
  t3 := Tryz.underlying3
  a3 := Tryz.isAgg3
  z3 := Tryz.sizeOf3
  v3 := Tryz.zeroValue3
  t4 := Tryz.underlying4
  a4 := Tryz.isAgg4
  z4 := Tryz.sizeOf4
  v4 := Tryz.zeroValue4
  t5 := Tryz.underlying5
  a5 := Tryz.isAgg5
  z5 := Tryz.sizeOf5
  v5 := Tryz.zeroValue5
  t9 := Tryz.underlying9
  a9 := Tryz.isAgg9
  z9 := Tryz.sizeOf9
  v9 := Tryz.zeroValue9
  t21 := Tryz.underlying21
  a21 := Tryz.isAgg21
  z21 := Tryz.sizeOf21
  v21 := Tryz.zeroValue21
  t46 := Tryz.underlying172
  a46 := Tryz.isAgg172
  z46 := Tryz.sizeOf172
  v46 := Tryz.zeroValue172
  t105 := Tryz.underlying134
  a105 := Tryz.isAgg134
  z105 := Tryz.sizeOf134
  v105 := Tryz.zeroValue134
  t119 := Tryz.underlying148
  a119 := Tryz.isAgg148
  z119 := Tryz.sizeOf148
  t138 := Tryz.underlying174
  a138 := Tryz.isAgg174
  z138 := Tryz.sizeOf174
  v138 := Tryz.zeroValue174
  t139 := Tryz.underlying175
  a139 := Tryz.isAgg175
  z139 := Tryz.sizeOf175
  v139 := Tryz.zeroValue175
  g3 := by kernel_rfl
  g4 := by kernel_rfl }
open Go.RowKit Go.Lib in
/-- **unicode/utf8.DecodeRuneInString AT EVERY STRING.** (LAID: no walk: one application.) -/
theorem Tryz.utf8_DecodeRuneInString (s : ByteArray) (w : World) (hT : Lib.Utf8Tabs 6 7 w) :
    Calls Tryz.prog 60 #[.string s] w fun e w' => e = .returned (.tuple #[.int .i32 (Lib.decodeGo s).1, .int .i64 (Lib.decodeGo s).2]) ∧ Below w.heap.size w w' := Any.utf8_DecodeRuneInString Tryz.lays197 s w hT
def Tryz.lays261_ren : Go.Shelf.Ren := ⟨fun | 261 => 71 | 311 => 77 | 312 => 78 | n => n, fun | 141 => 150 | 21 => 21 | 4 => 4 | 0 => 0 | 196 => 164 | 193 => 161 | 3 => 3 | 51 => 147 | 198 => 167 | 49 => 165 | 194 => 162 | 201 => 170 | 226 => 183 | 46 => 172 | 227 => 184 | n => n, fun | n => n⟩
theorem Tryz.lays261 : Go.Proofs.Lays.n261 Tryz.prog Tryz.lays261_ren := {
  mixed := by kernel_rfl
  f261 := Tryz.func71.trans (congrArg some (by kernel_rfl))
  f311 := Tryz.func77.trans (congrArg some (by kernel_rfl))
  f312 := Tryz.func78.trans (congrArg some (by kernel_rfl))
  t0 := Tryz.underlying0
  a0 := Tryz.isAgg0
  z0 := Tryz.sizeOf0
  v0 := Tryz.zeroValue0
  t3 := Tryz.underlying3
  a3 := Tryz.isAgg3
  z3 := Tryz.sizeOf3
  v3 := Tryz.zeroValue3
  t4 := Tryz.underlying4
  a4 := Tryz.isAgg4
  z4 := Tryz.sizeOf4
  v4 := Tryz.zeroValue4
  t21 := Tryz.underlying21
  a21 := Tryz.isAgg21
  z21 := Tryz.sizeOf21
  v21 := Tryz.zeroValue21
  t46 := Tryz.underlying172
  a46 := Tryz.isAgg172
  z46 := Tryz.sizeOf172
  v46 := Tryz.zeroValue172
  t49 := Tryz.underlying165
  a49 := Tryz.isAgg165
  z49 := Tryz.sizeOf165
  v49 := Tryz.zeroValue165
  t51 := Tryz.underlying147
  a51 := Tryz.isAgg147
  z51 := Tryz.sizeOf147
  v51 := Tryz.zeroValue147
  t141 := Tryz.underlying150
  a141 := Tryz.isAgg150
  z141 := Tryz.sizeOf150
  v141 := Tryz.zeroValue150
  t193 := Tryz.underlying161
  a193 := Tryz.isAgg161
  z193 := Tryz.sizeOf161
  v193 := Tryz.zeroValue161
  t194 := Tryz.underlying162
  a194 := Tryz.isAgg162
  z194 := Tryz.sizeOf162
  v194 := Tryz.zeroValue162
  t196 := Tryz.underlying164
  a196 := Tryz.isAgg164
  z196 := Tryz.sizeOf164
  v196 := Tryz.zeroValue164
  t198 := Tryz.underlying167
  a198 := Tryz.isAgg167
  z198 := Tryz.sizeOf167
  v198 := Tryz.zeroValue167
  t201 := Tryz.underlying170
  a201 := Tryz.isAgg170
  z201 := Tryz.sizeOf170
  v201 := Tryz.zeroValue170
  t226 := Tryz.underlying183
  a226 := Tryz.isAgg183
  z226 := Tryz.sizeOf183
  v226 := Tryz.zeroValue183
  t227 := Tryz.underlying184
  a227 := Tryz.isAgg184
  z227 := Tryz.sizeOf184
  v227 := Tryz.zeroValue184 }
open Go.RowKit Go.Lib in
/-- unicode.IsLetter(r) AT EVERY int32, over whatever table the variable unicode.Letter leads to. (LAID: no walk: one application.) -/
theorem Tryz.unicode_IsLetter_any (T : RTab) (r : Int) (w : World) (hlo : -2147483648 ≤ r) (hhi : r ≤ 2147483647) (htab : Lib.TabIs Tryz.prog w "unicode.properties" .u8 Lib.propertiesTab) (hV : RVar 2 T w) (hok : RTabOk T) :
    Calls Tryz.prog 49 #[.int .i32 r] w fun e w' => e = .returned (.bool (if latin1 r then isLetterL r else exclGo T r)) ∧ Below w.heap.size w w' := Any.unicode_IsLetter_any Tryz.lays200 (by kernel_rfl) T r w hlo hhi htab hV hok
open Go.RowKit Go.Lib in
/-- unicode.IsUpper(r) AT EVERY int32, over whatever table the variable unicode.Upper leads to. (LAID: no walk: one application.) -/
theorem Tryz.unicode_IsUpper_any (T : RTab) (r : Int) (w : World) (hlo : -2147483648 ≤ r) (hhi : r ≤ 2147483647) (htab : Lib.TabIs Tryz.prog w "unicode.properties" .u8 Lib.propertiesTab) (hV : RVar 4 T w) (hok : RTabOk T) :
    Calls Tryz.prog 61 #[.int .i32 r] w fun e w' => e = .returned (.bool (if latin1 r then isUpperL r else exclGo T r)) ∧ Below w.heap.size w w' := Any.unicode_IsUpper_any Tryz.lays201 (by kernel_rfl) T r w hlo hhi htab hV hok
open Go.RowKit Go.Lib in
/-- unicode.IsDigit(r) AT EVERY int32, over whatever table the variable unicode.Digit leads to. (LAID: no walk: one application.) -/
theorem Tryz.unicode_IsDigit_any (T : RTab) (r : Int) (w : World) (hlo : -2147483648 ≤ r) (hhi : r ≤ 2147483647) (hV : RVar 3 T w) (hok : RTabOk T) :
    Calls Tryz.prog 50 #[.int .i32 r] w fun e w' => e = .returned (.bool (if r ≤ 255 then isDigitL r else exclGo T r)) ∧ Below w.heap.size w w' := Any.unicode_IsDigit_any Tryz.lays198 T r w hlo hhi hV hok
def Tryz.lays196_ren : Go.Shelf.Ren := ⟨fun | 196 => 81 | 259 => 86 | n => n, fun | 9 => 9 | 4 => 4 | 3 => 3 | 5 => 5 | 12 => 12 | 119 => 148 | 0 => 0 | 46 => 172 | 139 => 175 | 138 => 174 | 53 => 158 | n => n, fun | 3 => 6 | 4 => 7 | n => n⟩
theorem Tryz.lays196 : Go.Proofs.Lays.n196 Tryz.prog Tryz.lays196_ren := {
  mixed := by kernel_rfl
  f196 := Tryz.func81.trans (congrArg some (by kernel_rfl))
  f259 := Tryz.func86.trans (congrArg some (by kernel_rfl))
  t0 := Tryz.underlying0
  a0 := Tryz.isAgg0
  z0 := Tryz.sizeOf0
  v0 := Tryz.zeroValue0
  t3 := Tryz.underlying3
  a3 := Tryz.isAgg3
  z3 := Tryz.sizeOf3
  v3 := Tryz.zeroValue3
  t4 := Tryz.underlying4
  a4 := Tryz.isAgg4
  z4 := Tryz.sizeOf4
  v4 := Tryz.zeroValue4
  t5 := Tryz.underlying5
  a5 := Tryz.isAgg5
  z5 := Tryz.sizeOf5
  v5 := Tryz.zeroValue5
  t9 := Tryz.underlying9
  a9 := Tryz.isAgg9
  z9 := Tryz.sizeOf9
  v9 := Tryz.zeroValue9
  t12 := Tryz.underlying12
  a12 := Tryz.isAgg12
  z12 := Tryz.sizeOf12
  v12 := Tryz.zeroValue12
  t46 := Tryz.underlying172
  a46 := Tryz.isAgg172
  z46 := Tryz.sizeOf172
  v46 := Tryz.zeroValue172
  t53 := Tryz.underlying158
  a53 := Tryz.isAgg158
  z53 := Tryz.sizeOf158
  v53 := Tryz.zeroValue158
  t119 := Tryz.underlying148
  a119 := Tryz.isAgg148
  z119 := Tryz.sizeOf148
  t138 := Tryz.underlying174
  a138 := Tryz.isAgg174
  z138 := Tryz.sizeOf174
  v138 := Tryz.zeroValue174
  t139 := Tryz.underlying175
  a139 := Tryz.isAgg175
  z139 := Tryz.sizeOf175
  v139 := Tryz.zeroValue175
  g3 := by kernel_rfl
  g4 := by kernel_rfl }
open Go.RowKit in
theorem Tryz.utf8_ValidString (s : ByteArray) (w : World) (hs : s.size ≤ 9223372036854775807) (hT : Lib.Utf8Tabs 6 7 w) :
    Calls Tryz.prog 81 #[.string s] w fun e w' => e = .returned (.bool (Lib.validD s.data.toList)) ∧ Below w.heap.size w w' := Any.utf8_ValidString Tryz.lays196 s w hs hT
end Go.Proofs
