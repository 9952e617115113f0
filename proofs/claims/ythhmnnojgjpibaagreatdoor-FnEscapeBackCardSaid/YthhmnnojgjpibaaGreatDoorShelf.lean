/-
  DERIVED: THE SHELF's CONTRACTS AT THIS DUMP, IN PLAIN WORDS (tools/lay-plain.mjs out of 'TryzShelf.lean', which tools/lay-shelf.mjs wrote): THE SAME DECLARATIONS UNDER THE SAME NAMES: 'import', 'namespace', 'open', 'def', 'theorem' AND NOTHING ELSE: no command of the shelf's: FOR A HAND-IN. Each laying: the table of numbers ('.._ren') and one theorem, a field a fact of the dump's own or the kernel's comparison; each contract: ONE APPLICATION.
-/
import Derived.Shelf.LaysM
import Derived.Shelf.Bytes.GrowSliceCatch
import Derived.Shelf.Bytes.GrowSlice
import Derived.Shelf.Bytes.LenAt
import Derived.Shelf.Bytes.TryGrowAt
import Derived.Shelf.Unicode.Is16Any
import Derived.Shelf.Unicode.Is32Any
import Derived.Ground.GgnProg
import Derived.Shelf.Unicode.PredsGn
import Derived.Ground.Names7Prog
import Derived.Shelf.Spec.DecodeRune
import Derived.Shelf.Spec.NilArms
import Derived.Test.YthhmnnojgjpibaaGreatDoorProg
namespace Go.Proofs
open Go.Shelf
def Tryz.laysM324_ren : Go.Shelf.Ren := ⟨fun | 324 => 103 | n => n, fun | 20 => 20 | 4 => 4 | 75 => 45 | 0 => 0 | 80 => 48 | 9 => 9 | n => n, fun | 14 => 3 | n => n⟩
theorem Tryz.laysM324 : Go.Proofs.LaysM.n324 Tryz.prog Tryz.laysM324_ren := {
  mixed := by kernel_rfl
  f324 := Tryz.func103.trans (congrArg some (by kernel_rfl))
  t0 := Tryz.underlying0
  a0 := Tryz.isAgg0
  z0 := Tryz.sizeOf0
  v0 := Tryz.zeroValue0
  t4 := Tryz.underlying4
  a4 := Tryz.isAgg4
  z4 := Tryz.sizeOf4
  v4 := Tryz.zeroValue4
  t20 := Tryz.underlying20
  a20 := Tryz.isAgg20
  z20 := Tryz.sizeOf20
  v20 := Tryz.zeroValue20
  t75 := Tryz.underlying45
  a75 := Tryz.isAgg45
  z75 := Tryz.sizeOf45
  v75 := Tryz.zeroValue45
  g14 := by kernel_rfl
  t9 := Tryz.underlying9
  a9 := Tryz.isAgg9
  z9 := Tryz.sizeOf9
  v9 := Tryz.zeroValue9
  t80 := Tryz.underlying48
  a80 := Tryz.isAgg48
  z80 := Tryz.sizeOf48
  v80 := Tryz.zeroValue48
  i0 := by kernel_rfl
  i4 := by kernel_rfl
  i9 := by kernel_rfl
  i20 := by kernel_rfl
  i75 := by kernel_rfl
  i80 := by kernel_rfl
  m14 := by kernel_rfl }
theorem Tryz.growSlice_catch_idle (w : World) :
    CallsD Tryz.prog 103 #[] .returning w fun e u' w' => e = .returned (.tuple #[]) ∧ u' = .returning ∧ w' = w := Any.growSlice_catch_idle Tryz.laysM324 w
def Tryz.laysM290_ren : Go.Shelf.Ren := ⟨fun | 290 => 82 | 324 => 103 | n => n, fun | 37 => 39 | 3 => 3 | 0 => 0 | 4 => 4 | 20 => 20 | 75 => 45 | 5 => 5 | 80 => 48 | 9 => 9 | n => n, fun | 14 => 3 | n => n⟩
theorem Tryz.laysM290 : Go.Proofs.LaysM.n290 Tryz.prog Tryz.laysM290_ren := {
  mixed := by kernel_rfl
  f290 := Tryz.func82.trans (congrArg some (by kernel_rfl))
  f324 := Tryz.func103.trans (congrArg some (by kernel_rfl))
  t0 := Tryz.underlying0
  a0 := Tryz.isAgg0
  z0 := Tryz.sizeOf0
  v0 := Tryz.zeroValue0
  t3 := Tryz.underlying3
  a3 := Tryz.isAgg3
  z3 := Tryz.sizeOf3
  v3 := Tryz.zeroValue3
  t4 := Tryz.underlying4
  a4 := Tryz.isAgg4
  z4 := Tryz.sizeOf4
  v4 := Tryz.zeroValue4
  t20 := Tryz.underlying20
  a20 := Tryz.isAgg20
  z20 := Tryz.sizeOf20
  v20 := Tryz.zeroValue20
  t37 := Tryz.underlying39
  a37 := Tryz.isAgg39
  z37 := Tryz.sizeOf39
  v37 := Tryz.zeroValue39
  t75 := Tryz.underlying45
  a75 := Tryz.isAgg45
  z75 := Tryz.sizeOf45
  v75 := Tryz.zeroValue45
  g14 := by kernel_rfl
  t5 := Tryz.underlying5
  a5 := Tryz.isAgg5
  z5 := Tryz.sizeOf5
  v5 := Tryz.zeroValue5
  t9 := Tryz.underlying9
  a9 := Tryz.isAgg9
  z9 := Tryz.sizeOf9
  v9 := Tryz.zeroValue9
  t80 := Tryz.underlying48
  a80 := Tryz.isAgg48
  z80 := Tryz.sizeOf48
  v80 := Tryz.zeroValue48
  i0 := by kernel_rfl
  i3 := by kernel_rfl
  i4 := by kernel_rfl
  i5 := by kernel_rfl
  i9 := by kernel_rfl
  i20 := by kernel_rfl
  i37 := by kernel_rfl
  i75 := by kernel_rfl
  i80 := by kernel_rfl
  m14 := by kernel_rfl }
open Go.RowKit in
/-- bytes.growSlice: "growSlice grows b by n, preserving the original content of b.": OF A SLICE THAT LIES AT THE HEAD OF A ROW: a new row, number 'w.heap.size': it begins with b's l cells; its capacity has room for n more; whatever lay below is as it was. (LAID: no walk: one application.) -/
theorem Tryz.bytes_growSlice_row (g l c n : Nat) (cur : Array Value) (w : World) (hg : w.heap[g]? = some (.cells cur 5 (0, 0))) (hcs : cur.size = c) (hlc : l ≤ c) (hn : 1 ≤ n) (hlim : l + n ≤ 140737488355328) (hc2 : c ≤ 140737488355328) (h1 : ∀ v ∈ cur.toList.take l, v.oneCell' = true) :
    Calls Tryz.prog 82 #[.slice (some ⟨g, 0, none⟩) l c, .int .i64 n] w fun e w' => ∃ cap2 cells, e = .returned (.slice (some ⟨w.heap.size, 0, none⟩) l cap2) ∧ w'.heap[w.heap.size]? = some (.cells cells 5 (0, 0)) ∧
      cells.size = cap2 ∧ cells.toList.take l = cur.toList.take l ∧ l + n ≤ cap2 ∧ cap2 ≤ maxLen ∧ Below w.heap.size w w' := Any.bytes_growSlice_row Tryz.laysM290 g l c n cur w hg hcs hlc hn hlim hc2 h1
open Go.RowKit in
/-- .. OF THE NIL SLICE: a new row with room for n. (LAID: no walk: one application.) -/
theorem Tryz.bytes_growSlice_nil (n : Nat) (w : World) (hn : 1 ≤ n) (hlim : n ≤ 140737488355328) :
    Calls Tryz.prog 82 #[.slice none 0 0, .int .i64 n] w fun e w' => ∃ cap2 cells, e = .returned (.slice (some ⟨w.heap.size, 0, none⟩) 0 cap2) ∧ w'.heap[w.heap.size]? = some (.cells cells 5 (0, 0)) ∧
      cells.size = cap2 ∧ n ≤ cap2 ∧ cap2 ≤ maxLen ∧ Below w.heap.size w w' := Any.bytes_growSlice_nil Tryz.laysM290 n w hn hlim
def Tryz.laysM181_ren : Go.Shelf.Ren := ⟨fun | 181 => 50 | n => n, fun | 130 => 47 | 3 => 3 | 0 => 0 | 93 => 43 | 37 => 39 | 91 => 41 | 5 => 5 | n => n, fun | n => n⟩
theorem Tryz.laysM181 : Go.Proofs.LaysM.n181 Tryz.prog Tryz.laysM181_ren := {
  mixed := by kernel_rfl
  f181 := Tryz.func50.trans (congrArg some (by kernel_rfl))
  t0 := Tryz.underlying0
  a0 := Tryz.isAgg0
  z0 := Tryz.sizeOf0
  v0 := Tryz.zeroValue0
  t3 := Tryz.underlying3
  a3 := Tryz.isAgg3
  z3 := Tryz.sizeOf3
  v3 := Tryz.zeroValue3
  t37 := Tryz.underlying39
  a37 := Tryz.isAgg39
  z37 := Tryz.sizeOf39
  v37 := Tryz.zeroValue39
  t93 := Tryz.underlying43
  a93 := Tryz.isAgg43
  z93 := Tryz.sizeOf43
  v93 := Tryz.zeroValue43
  t130 := Tryz.underlying47
  a130 := Tryz.isAgg47
  z130 := Tryz.sizeOf47
  v130 := Tryz.zeroValue47
  t5 := Tryz.underlying5
  a5 := Tryz.isAgg5
  z5 := Tryz.sizeOf5
  v5 := Tryz.zeroValue5
  t91 := Tryz.underlying41
  a91 := Tryz.isAgg41
  z91 := Tryz.sizeOf41
  v91 := Tryz.zeroValue41
  i0 := by kernel_rfl
  i3 := by kernel_rfl
  i5 := by kernel_rfl
  i37 := by kernel_rfl
  i91 := by kernel_rfl
  i93 := by kernel_rfl
  i130 := by kernel_rfl }
open Go.RowKit in
/-- (*bytes.Buffer).Len: "Len returns the number of bytes of the unread portion of the buffer; b.Len() == len(b.Bytes()).": the world is as it was but for the count of draws (the statement has two reads: its order is drawn). (LAID: no walk: one application.) -/
theorem Tryz.Buffer_Len_at (T : TypeId) (R : Nat → Option Value) (B b q : Nat) (bs : List Value) (w : World) (h : LibA.IsBuffer T R 5 B b q bs w) :
    Calls Tryz.prog 50 #[.pointer (some ⟨b, q, none⟩)] w fun e w' => e = .returned (.int .i64 bs.length) ∧ ∃ n, w' = w.drewN n := Any.Buffer_Len_at Tryz.laysM181 T R B b q bs w h
def Tryz.laysM251_ren : Go.Shelf.Ren := ⟨fun | 251 => 65 | n => n, fun | 130 => 47 | 3 => 3 | 4 => 4 | 0 => 0 | 93 => 43 | 37 => 39 | 91 => 41 | 5 => 5 | n => n, fun | n => n⟩
theorem Tryz.laysM251 : Go.Proofs.LaysM.n251 Tryz.prog Tryz.laysM251_ren := {
  mixed := by kernel_rfl
  f251 := Tryz.func65.trans (congrArg some (by kernel_rfl))
  t0 := Tryz.underlying0
  a0 := Tryz.isAgg0
  z0 := Tryz.sizeOf0
  v0 := Tryz.zeroValue0
  t3 := Tryz.underlying3
  a3 := Tryz.isAgg3
  z3 := Tryz.sizeOf3
  v3 := Tryz.zeroValue3
  t4 := Tryz.underlying4
  a4 := Tryz.isAgg4
  z4 := Tryz.sizeOf4
  v4 := Tryz.zeroValue4
  t37 := Tryz.underlying39
  a37 := Tryz.isAgg39
  z37 := Tryz.sizeOf39
  v37 := Tryz.zeroValue39
  t93 := Tryz.underlying43
  a93 := Tryz.isAgg43
  z93 := Tryz.sizeOf43
  v93 := Tryz.zeroValue43
  t130 := Tryz.underlying47
  a130 := Tryz.isAgg47
  z130 := Tryz.sizeOf47
  v130 := Tryz.zeroValue47
  t5 := Tryz.underlying5
  a5 := Tryz.isAgg5
  z5 := Tryz.sizeOf5
  v5 := Tryz.zeroValue5
  t91 := Tryz.underlying41
  a91 := Tryz.isAgg41
  z91 := Tryz.sizeOf41
  v91 := Tryz.zeroValue41
  i0 := by kernel_rfl
  i3 := by kernel_rfl
  i4 := by kernel_rfl
  i5 := by kernel_rfl
  i37 := by kernel_rfl
  i91 := by kernel_rfl
  i93 := by kernel_rfl
  i130 := by kernel_rfl }
open Go.RowKit in
/-- (*bytes.Buffer).tryGrowByReslice: "tryGrowByReslice is an inlineable version of grow for the fast-case where the internal buffer only needs to be resliced. It returns the index where bytes should be written and whether it succeeded.": THERE IS ROOM: 'buf' is resliced to l + n. (LAID: no walk: one application.) -/
theorem Tryz.Buffer_tryGrow_room_at (b q : Nat) (ao : Option Addr) (l cap n : Nat) (w : World) (c0 : w.cell? ⟨b, q, none⟩ = some (.slice ao l cap)) (f0 : w.frozen? ⟨b, q, none⟩ = false) (hlc : l ≤ cap) (hcap : cap ≤ maxLen) (hn : n ≤ cap - l) :
    Calls Tryz.prog 65 #[.pointer (some ⟨b, q, none⟩), .int .i64 n] w fun e w' => e = .returned (.tuple #[.int .i64 l, .bool true]) ∧ w' = w.setCell ⟨b, q, none⟩ (.slice ao (l + n) cap) := Any.Buffer_tryGrow_room_at Tryz.laysM251 b q ao l cap n w c0 f0 hlc hcap hn
open Go.RowKit in
/-- .. THERE IS NONE: nothing turns. (LAID: no walk: one application.) -/
theorem Tryz.Buffer_tryGrow_none_at (b q : Nat) (ao : Option Addr) (l cap n : Nat) (w : World) (c0 : w.cell? ⟨b, q, none⟩ = some (.slice ao l cap)) (hlc : l ≤ cap) (hcap : cap ≤ maxLen) (hn : cap - l < n) :
    Calls Tryz.prog 65 #[.pointer (some ⟨b, q, none⟩), .int .i64 n] w fun e w' => e = .returned (.tuple #[.int .i64 0, .bool false]) ∧ w' = w := Any.Buffer_tryGrow_none_at Tryz.laysM251 b q ao l cap n w c0 hlc hcap hn
def Tryz.lays311_ren : Go.Shelf.Ren := ⟨fun | 311 => 94 | n => n, fun | 193 => 209 | 49 => 194 | 4 => 4 | 3 => 3 | 0 => 0 | 226 => 231 | 198 => 215 | 46 => 155 | n => n, fun | n => n⟩
theorem Tryz.lays311 : Go.Proofs.Lays.n311 Tryz.prog Tryz.lays311_ren := {
  mixed := by kernel_rfl
  f311 := Tryz.func94.trans (congrArg some (by kernel_rfl))
  t0 := Tryz.underlying0
  a0 := Tryz.isAgg0
  z0 := Tryz.sizeOf0
  v0 := Tryz.zeroValue0
  t3 := Tryz.underlying3
  a3 := Tryz.isAgg3
  z3 := Tryz.sizeOf3
  v3 := Tryz.zeroValue3
  t4 := Tryz.underlying4
  a4 := Tryz.isAgg4
  z4 := Tryz.sizeOf4
  v4 := Tryz.zeroValue4
  t46 := Tryz.underlying155
  a46 := Tryz.isAgg155
  z46 := Tryz.sizeOf155
  v46 := Tryz.zeroValue155
  t49 := Tryz.underlying194
  a49 := Tryz.isAgg194
  z49 := Tryz.sizeOf194
  v49 := Tryz.zeroValue194
  t193 := Tryz.underlying209
  a193 := Tryz.isAgg209
  z193 := Tryz.sizeOf209
  v193 := Tryz.zeroValue209
  t198 := Tryz.underlying215
  a198 := Tryz.isAgg215
  z198 := Tryz.sizeOf215
  v198 := Tryz.zeroValue215
  t226 := Tryz.underlying231
  a226 := Tryz.isAgg231
  z226 := Tryz.sizeOf231
  v226 := Tryz.zeroValue231 }
open Go.RowKit Go.Lib in
theorem Tryz.unicode_is16_any (T : Array Rg) (R oR cap : Nat) (z : Nat) (w : World) (hz : z < 65536) (hT : RgTab .u16 R oR T w) (hok : RgOk 65536 T) (hn : T.size ≤ 1000000000) :
    Calls Tryz.prog 94 #[.slice (some ⟨R, oR, none⟩) T.size cap, .int .u16 z] w fun e w' => e = .returned (.bool (is16Go T z)) ∧ ∃ q, w' = w.drewN q := Any.unicode_is16_any Tryz.lays311 T R oR cap z w hz hT hok hn
def Tryz.lays312_ren : Go.Shelf.Ren := ⟨fun | 312 => 95 | n => n, fun | 194 => 210 | 51 => 213 | 4 => 4 | 3 => 3 | 0 => 0 | 227 => 232 | 201 => 218 | 46 => 155 | n => n, fun | n => n⟩
theorem Tryz.lays312 : Go.Proofs.Lays.n312 Tryz.prog Tryz.lays312_ren := {
  mixed := by kernel_rfl
  f312 := Tryz.func95.trans (congrArg some (by kernel_rfl))
  t0 := Tryz.underlying0
  a0 := Tryz.isAgg0
  z0 := Tryz.sizeOf0
  v0 := Tryz.zeroValue0
  t3 := Tryz.underlying3
  a3 := Tryz.isAgg3
  z3 := Tryz.sizeOf3
  v3 := Tryz.zeroValue3
  t4 := Tryz.underlying4
  a4 := Tryz.isAgg4
  z4 := Tryz.sizeOf4
  v4 := Tryz.zeroValue4
  t46 := Tryz.underlying155
  a46 := Tryz.isAgg155
  z46 := Tryz.sizeOf155
  v46 := Tryz.zeroValue155
  t51 := Tryz.underlying213
  a51 := Tryz.isAgg213
  z51 := Tryz.sizeOf213
  v51 := Tryz.zeroValue213
  t194 := Tryz.underlying210
  a194 := Tryz.isAgg210
  z194 := Tryz.sizeOf210
  v194 := Tryz.zeroValue210
  t201 := Tryz.underlying218
  a201 := Tryz.isAgg218
  z201 := Tryz.sizeOf218
  v201 := Tryz.zeroValue218
  t227 := Tryz.underlying232
  a227 := Tryz.isAgg232
  z227 := Tryz.sizeOf232
  v227 := Tryz.zeroValue232 }
open Go.RowKit Go.Lib in
theorem Tryz.unicode_is32_any (T : Array Rg) (R oR cap : Nat) (z : Nat) (w : World) (hz : z < 4294967296) (hT : RgTab .u32 R oR T w) (hok : RgOk 4294967296 T) (hn : T.size ≤ 1000000000) :
    Calls Tryz.prog 95 #[.slice (some ⟨R, oR, none⟩) T.size cap, .int .u32 z] w fun e w' => e = .returned (.bool (is32Go T z)) ∧ Below w.heap.size w w' := Any.unicode_is32_any Tryz.lays312 T R oR cap z w hz hT hok hn
def Tryz.laysGn14_ren : Go.Shelf.Ren := ⟨fun | 14 => 77 | 25 => 94 | 26 => 95 | n => n, fun | 22 => 191 | 21 => 21 | 4 => 4 | 0 => 0 | 31 => 212 | 28 => 209 | 3 => 3 | 32 => 213 | 35 => 215 | 33 => 194 | 29 => 210 | 38 => 218 | 41 => 231 | 42 => 155 | 43 => 232 | n => n, fun | n => n⟩
theorem Tryz.laysGn14 : Go.Proofs.LaysGn.n14 Tryz.prog Tryz.laysGn14_ren := {
  mixed := by kernel_rfl
  f14 := Tryz.func77.trans (congrArg some (by kernel_rfl))
  f25 := Tryz.func94.trans (congrArg some (by kernel_rfl))
  f26 := Tryz.func95.trans (congrArg some (by kernel_rfl))
  t0 := Tryz.underlying0
  a0 := Tryz.isAgg0
  z0 := Tryz.sizeOf0
  v0 := Tryz.zeroValue0
  i0 := by kernel_rfl
  t3 := Tryz.underlying3
  a3 := Tryz.isAgg3
  z3 := Tryz.sizeOf3
  v3 := Tryz.zeroValue3
  i3 := by kernel_rfl
  t4 := Tryz.underlying4
  a4 := Tryz.isAgg4
  z4 := Tryz.sizeOf4
  v4 := Tryz.zeroValue4
  i4 := by kernel_rfl
  t21 := Tryz.underlying21
  a21 := Tryz.isAgg21
  z21 := Tryz.sizeOf21
  v21 := Tryz.zeroValue21
  i21 := by kernel_rfl
  t22 := Tryz.underlying191
  a22 := Tryz.isAgg191
  z22 := Tryz.sizeOf191
  v22 := Tryz.zeroValue191
  i22 := by kernel_rfl
  t28 := Tryz.underlying209
  a28 := Tryz.isAgg209
  z28 := Tryz.sizeOf209
  v28 := Tryz.zeroValue209
  i28 := by kernel_rfl
  t29 := Tryz.underlying210
  a29 := Tryz.isAgg210
  z29 := Tryz.sizeOf210
  v29 := Tryz.zeroValue210
  i29 := by kernel_rfl
  t31 := Tryz.underlying212
  a31 := Tryz.isAgg212
  z31 := Tryz.sizeOf212
  v31 := Tryz.zeroValue212
  i31 := by kernel_rfl
  t32 := Tryz.underlying213
  a32 := Tryz.isAgg213
  z32 := Tryz.sizeOf213
  v32 := Tryz.zeroValue213
  i32 := by kernel_rfl
  t33 := Tryz.underlying194
  a33 := Tryz.isAgg194
  z33 := Tryz.sizeOf194
  v33 := Tryz.zeroValue194
  i33 := by kernel_rfl
  t35 := Tryz.underlying215
  a35 := Tryz.isAgg215
  z35 := Tryz.sizeOf215
  v35 := Tryz.zeroValue215
  i35 := by kernel_rfl
  t38 := Tryz.underlying218
  a38 := Tryz.isAgg218
  z38 := Tryz.sizeOf218
  v38 := Tryz.zeroValue218
  i38 := by kernel_rfl
  t41 := Tryz.underlying231
  a41 := Tryz.isAgg231
  z41 := Tryz.sizeOf231
  v41 := Tryz.zeroValue231
  i41 := by kernel_rfl
  t42 := Tryz.underlying155
  a42 := Tryz.isAgg155
  z42 := Tryz.sizeOf155
  v42 := Tryz.zeroValue155
  i42 := by kernel_rfl
  t43 := Tryz.underlying232
  a43 := Tryz.isAgg232
  z43 := Tryz.sizeOf232
  v43 := Tryz.zeroValue232
  i43 := by kernel_rfl }
open Go.RowKit Go.Lib in
/-- **unicode.Is(rangeTab, r) AT EVERY int32, OVER WHATEVER RangeTable.** (LAID: no walk: one application.) -/
theorem Tryz.unicode_Is_any (Tb oT : Nat) (T : RTab) (r : Int) (w : World) (hlo : -2147483648 ≤ r) (hhi : r ≤ 2147483647) (hA : RTabAt Tb oT T w) (hok : RTabOk T) :
    Calls Tryz.prog 77 #[.pointer (some ⟨Tb, oT, none⟩), .int .i32 r] w fun e w' => e = .returned (.bool (isGo T r)) ∧ Below w.heap.size w w' := Any.unicode_Is_any Tryz.laysGn14 Tb oT T r w hlo hhi hA hok
def Tryz.lays7_32_ren : Go.Shelf.Ren := ⟨fun | 32 => 22 | 49 => 34 | n => n, fun | 30 => 39 | 21 => 21 | 3 => 3 | 0 => 0 | 5 => 5 | 4 => 4 | 33 => 106 | 66 => 154 | 25 => 155 | 69 => 158 | 68 => 157 | n => n, fun | 2 => 1 | 3 => 2 | n => n⟩
theorem Tryz.lays7_32 : Go.Proofs.Lays7.n32 Tryz.prog Tryz.lays7_32_ren := {
  mixed := by kernel_rfl
  f32 := Tryz.func22.trans (congrArg some (by kernel_rfl))
  f49 := Tryz.func34.trans (congrArg some (by kernel_rfl))
  t0 := Tryz.underlying0
  a0 := Tryz.isAgg0
  z0 := Tryz.sizeOf0
  v0 := Tryz.zeroValue0
  i0 := by kernel_rfl
  t3 := Tryz.underlying3
  a3 := Tryz.isAgg3
  z3 := Tryz.sizeOf3
  v3 := Tryz.zeroValue3
  i3 := by kernel_rfl
  t4 := Tryz.underlying4
  a4 := Tryz.isAgg4
  z4 := Tryz.sizeOf4
  v4 := Tryz.zeroValue4
  i4 := by kernel_rfl
  t5 := Tryz.underlying5
  a5 := Tryz.isAgg5
  z5 := Tryz.sizeOf5
  v5 := Tryz.zeroValue5
  i5 := by kernel_rfl
  t21 := Tryz.underlying21
  a21 := Tryz.isAgg21
  z21 := Tryz.sizeOf21
  v21 := Tryz.zeroValue21
  i21 := by kernel_rfl
  t25 := Tryz.underlying155
  a25 := Tryz.isAgg155
  z25 := Tryz.sizeOf155
  v25 := Tryz.zeroValue155
  i25 := by kernel_rfl
  t30 := Tryz.underlying39
  a30 := Tryz.isAgg39
  z30 := Tryz.sizeOf39
  v30 := Tryz.zeroValue39
  i30 := by kernel_rfl
  t33 := Tryz.underlying106
  a33 := Tryz.isAgg106
  z33 := Tryz.sizeOf106
  v33 := Tryz.zeroValue106
  i33 := by kernel_rfl
  t66 := Tryz.underlying154
  a66 := Tryz.isAgg154
  z66 := Tryz.sizeOf154
  t68 := Tryz.underlying157
  a68 := Tryz.isAgg157
  z68 := Tryz.sizeOf157
  v68 := Tryz.zeroValue157
  i68 := by kernel_rfl
  t69 := Tryz.underlying158
  a69 := Tryz.isAgg158
  z69 := Tryz.sizeOf158
  v69 := Tryz.zeroValue158
  i69 := by kernel_rfl
  g2 := by kernel_rfl
  g3 := by kernel_rfl }
open Go.RowKit Go.Lib in
theorem Tryz.utf8_DecodeRune (s : ByteArray) (b off cap : Nat) (w : World) (hT : Lib.Utf8Tabs 1 2 w) (hp : ∀ j, j < s.size → w.cell? ⟨b, off + j, none⟩ = some (.int .u8 (s.get! j).toNat)) :
    Calls Tryz.prog 22 #[.slice (some ⟨b, off, none⟩) s.size cap] w fun e w' => e = .returned (.tuple #[.int .i32 (Lib.decodeGo s).1, .int .i64 (Lib.decodeGo s).2]) ∧ Below w.heap.size w w' := Any7.utf8_DecodeRune Tryz.lays7_32 s b off cap w hT hp
open Go.RowKit Go.Lib in
theorem Tryz.utf8_DecodeRune_ascii (n b off cap x0 : Nat) (w : World) (hn : (0 : Int) < (n : Int)) (hs0 : w.cell? ⟨b, off, none⟩ = some (.int .u8 x0)) (ha : (x0 : Int) < 128) :
    Calls Tryz.prog 22 #[.slice (some ⟨b, off, none⟩) n cap] w fun e w' => e = .returned (.tuple #[.int .i32 x0, .int .i64 1]) ∧ w' = w := Any7.utf8_DecodeRune_ascii Tryz.lays7_32 n b off cap x0 w hn hs0 ha
end Go.Proofs
