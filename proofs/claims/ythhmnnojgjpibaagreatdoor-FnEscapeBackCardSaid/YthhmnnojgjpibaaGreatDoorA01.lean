/- Frames: only blocks of a set have turned; and the reader under the decoder, as a list of bytes that are still to come. The decoder: its struct (a bytes.Buffer from cell 7 on), the reader under it, what is still to come. THE PLAIN LAW of FnEscapeBack: what EscapeText writes, byte by byte; good texts, rune by rune. What stands for a byte, in three kinds: '&#dd;', '&#xh;', '&name;'; bytes of names; the document. -/
import Derived.Below
import Derived.Calls
import Derived.Lib.BufferAt
import Derived.Lib.Hide
import Derived.Deep.RegionHeld
import Derived.Lib.TrimUEq

set_option linter.unusedVariables false
set_option linter.unusedSimpArgs false

namespace Go.Proofs.YthhmnnojgjpibaaGreatDoor
open Go Go.RowKit

/-- Only blocks of S have turned; there may be new ones. -/
structure Ext (S : Nat → Prop) (w w' : World) : Prop where
  os : w'.os = w.os
  tape : w'.tape = w.tape
  output : w'.output = w.output
  size : w.heap.size ≤ w'.heap.size
  block : ∀ k, k < w.heap.size → ¬ S k → w'.heap[k]? = w.heap[k]?
section
variable {S S' : Nat → Prop} {w w' w'' : World}
theorem Ext.refl (S : Nat → Prop) (w : World) : Ext S w w := ⟨rfl, rfl, rfl, Nat.le_refl _, fun _ _ _ => rfl⟩
theorem Ext.trans (h : Ext S w w') (k : Ext S w' w'') : Ext S w w'' :=
  ⟨k.os.trans h.os, k.tape.trans h.tape, k.output.trans h.output, Nat.le_trans h.size k.size, fun i hi hn => (k.block i (Nat.lt_of_lt_of_le hi h.size) hn).trans (h.block i hi hn)⟩
theorem Ext.mono (h : Ext S w w') (hs : ∀ k, k < w.heap.size → S k → S' k) : Ext S' w w' :=
  ⟨h.os, h.tape, h.output, h.size, fun k hk hn => h.block k hk fun e => hn (hs k hk e)⟩
theorem Ext.alloc (w : World) (o : Obj) : Ext S w (w.alloc o) := ⟨rfl, rfl, rfl, by simp, fun k hk _ => Below.heap_alloc w o k hk⟩
theorem Ext.setCell (w : World) {a : Addr} (ha : S a.block) (v : Value) : Ext S w (w.setCell a v) :=
  ⟨rfl, rfl, rfl, by simp [World.setCell], fun k _ hn => Below.heap_setCell w a v k (fun e => hn (e ▸ ha))⟩
theorem Ext.of_drew {d : Nat} (h : Ext S { w with drawn := d } w') : Ext S w w' := ⟨h.os, h.tape, h.output, h.size, h.block⟩
theorem Ext.drewN (h : Ext S w w') (n : Nat) : Ext S w (w'.drewN n) := ⟨h.os, h.tape, h.output, h.size, h.block⟩
theorem Ext.below (h : Ext S w w') {B : Nat} (hB : ∀ k, S k → B ≤ k) (hsz : B ≤ w.heap.size) : Below B w w' :=
  ⟨h.os, h.tape, h.output, h.size, fun k hk => h.block k (by omega) fun e => by have := hB k e; omega⟩
theorem Ext.of_grownBy {r : Nat} (h : w.grownBy w' (some r)) (hr : S r) : Ext S w w' :=
  ⟨h.os, h.tape, h.output, h.size, fun k hk hn => h.block k hk fun e => by injection e with e; subst e; exact hn hr⟩
theorem Ext.of_below (h : Below w.heap.size w w') : Ext S w w' := ⟨h.os, h.tape, h.output, h.size, fun k hk _ => h.block k hk⟩
end


/-- Bytes as cells. -/
def u8 (c : UInt8) : Value := .int .u8 c.toNat

/-- The cells of a bufio.Reader (its struct in br, its row of 4096 bytes in ba) over the pieces in pc (one piece, X, in pl): it stands at r of q bytes that lie in its row; the pieces stand at byte o of piece i. tb: the type of a byte; tp: that of the pieces' pointer. -/
structure RdAt (tb tp br ba pc pl : Nat) (X : ByteArray) (r q i o x5 x6 : Int) (err : Value) (cur : Array Value) (w : World) : Prop where
  fz : ∀ i, w.frozen? ⟨br, i, none⟩ = false
  fp : ∀ i, w.frozen? ⟨pc, i, none⟩ = false
  c0 : w.cell? ⟨br, 0, none⟩ = some (.slice (some ⟨ba, 0, none⟩) 4096 4096)
  c1 : w.cell? ⟨br, 1, none⟩ = some (.iface tp (.pointer (some ⟨pc, 0, none⟩)))
  c2 : w.cell? ⟨br, 2, none⟩ = some (.int .i64 r)
  c3 : w.cell? ⟨br, 3, none⟩ = some (.int .i64 q)
  c4 : w.cell? ⟨br, 4, none⟩ = some err
  c5 : w.cell? ⟨br, 5, none⟩ = some (.int .i64 x5)
  c6 : w.cell? ⟨br, 6, none⟩ = some (.int .i64 x6)
  row : w.heap[ba]? = some (.cells cur tb (0, 0))
  p0 : w.cell? ⟨pc, 0, none⟩ = some (.slice (some ⟨pl, 0, none⟩) 1 1)
  p1 : w.cell? ⟨pc, 1, none⟩ = some (.int .i64 i)
  p2 : w.cell? ⟨pc, 2, none⟩ = some (.int .i64 o)
  px : w.cell? ⟨pl, 0, none⟩ = some (.string X)
  ne1 : br ≠ ba
  ne2 : br ≠ pc
  ne3 : br ≠ pl
  ne4 : ba ≠ pc
  ne5 : ba ≠ pl
  ne6 : pc ≠ pl

section
variable {tb tp br ba pc pl : Nat} {X : ByteArray} {r q i o x5 x6 : Int} {err : Value} {cur : Array Value} {rest : List UInt8} {w w' : World}
theorem lt_of_cell {a : Addr} {v : Value} (h : w.cell? a = some v) : a.block < w.heap.size := World.block_lt_of_cell? w a (by rw [h])
/-- Where its four blocks are as they were, it is. -/
theorem RdAt.keep (h : RdAt tb tp br ba pc pl X r q i o x5 x6 err cur w) (e1 : w'.heap[br]? = w.heap[br]?) (e2 : w'.heap[ba]? = w.heap[ba]?) (e3 : w'.heap[pc]? = w.heap[pc]?) (e4 : w'.heap[pl]? = w.heap[pl]?) :
    RdAt tb tp br ba pc pl X r q i o x5 x6 err cur w' :=
  ⟨fun i => (World.frozen?_of_block e1).trans (h.fz i), fun i => (World.frozen?_of_block e3).trans (h.fp i), (World.cell?_of_block e1).trans h.c0, (World.cell?_of_block e1).trans h.c1, (World.cell?_of_block e1).trans h.c2,
    (World.cell?_of_block e1).trans h.c3, (World.cell?_of_block e1).trans h.c4, (World.cell?_of_block e1).trans h.c5, (World.cell?_of_block e1).trans h.c6, e2.trans h.row,
    (World.cell?_of_block e3).trans h.p0, (World.cell?_of_block e3).trans h.p1, (World.cell?_of_block e3).trans h.p2, (World.cell?_of_block e4).trans h.px, h.ne1, h.ne2, h.ne3, h.ne4, h.ne5, h.ne6⟩
theorem RdAt.drew (h : RdAt tb tp br ba pc pl X r q i o x5 x6 err cur w) : RdAt tb tp br ba pc pl X r q i o x5 x6 err cur w.drew := h.keep rfl rfl rfl rfl
theorem RdAt.drewN (h : RdAt tb tp br ba pc pl X r q i o x5 x6 err cur w) (n : Nat) : RdAt tb tp br ba pc pl X r q i o x5 x6 err cur (w.drewN n) := h.keep rfl rfl rfl rfl
/-- A store elsewhere. -/
theorem RdAt.set (h : RdAt tb tp br ba pc pl X r q i o x5 x6 err cur w) {a : Addr} (h1 : a.block ≠ br) (h2 : a.block ≠ ba) (h3 : a.block ≠ pc) (h4 : a.block ≠ pl) (v : Value) : RdAt tb tp br ba pc pl X r q i o x5 x6 err cur (w.setCell a v) :=
  h.keep (Below.heap_setCell _ _ _ _ h1.symm) (Below.heap_setCell _ _ _ _ h2.symm) (Below.heap_setCell _ _ _ _ h3.symm) (Below.heap_setCell _ _ _ _ h4.symm)
theorem far_br {w : World} {br k j : Nat} (e : k ≠ j) (v : Value) : (w.setCell ⟨br, k, none⟩ v).cell? ⟨br, j, none⟩ = w.cell? ⟨br, j, none⟩ := World.cell?_setCell_other _ _ _ _ fun h => e (by injection h)
theorem far_blk {w : World} {b c k j : Nat} (e : b ≠ c) (v : Value) : (w.setCell ⟨b, k, none⟩ v).cell? ⟨c, j, none⟩ = w.cell? ⟨c, j, none⟩ := World.cell?_setCell_far _ _ _ _ e
theorem RdAt.set2 (h : RdAt tb tp br ba pc pl X r q i o x5 x6 err cur w) (v : Int) : RdAt tb tp br ba pc pl X v q i o x5 x6 err cur (w.setCell ⟨br, 2, none⟩ (.int .i64 v)) :=
  ⟨fun i => (World.frozen?_setCell _ _ _ _).trans (h.fz i), fun i => (World.frozen?_setCell _ _ _ _).trans (h.fp i), (far_br (by decide) _).trans h.c0, (far_br (by decide) _).trans h.c1, World.cell?_setCell_same _ _ _ h.c2, (far_br (by decide) _).trans h.c3, (far_br (by decide) _).trans h.c4,
    (far_br (by decide) _).trans h.c5, (far_br (by decide) _).trans h.c6, (Below.heap_setCell _ _ _ _ h.ne1.symm).trans h.row, (far_blk h.ne2 _).trans h.p0, (far_blk h.ne2 _).trans h.p1, (far_blk h.ne2 _).trans h.p2, (far_blk h.ne3 _).trans h.px, h.ne1, h.ne2, h.ne3, h.ne4, h.ne5, h.ne6⟩
theorem RdAt.set3 (h : RdAt tb tp br ba pc pl X r q i o x5 x6 err cur w) (v : Int) : RdAt tb tp br ba pc pl X r v i o x5 x6 err cur (w.setCell ⟨br, 3, none⟩ (.int .i64 v)) :=
  ⟨fun i => (World.frozen?_setCell _ _ _ _).trans (h.fz i), fun i => (World.frozen?_setCell _ _ _ _).trans (h.fp i), (far_br (by decide) _).trans h.c0, (far_br (by decide) _).trans h.c1, (far_br (by decide) _).trans h.c2, World.cell?_setCell_same _ _ _ h.c3, (far_br (by decide) _).trans h.c4,
    (far_br (by decide) _).trans h.c5, (far_br (by decide) _).trans h.c6, (Below.heap_setCell _ _ _ _ h.ne1.symm).trans h.row, (far_blk h.ne2 _).trans h.p0, (far_blk h.ne2 _).trans h.p1, (far_blk h.ne2 _).trans h.p2, (far_blk h.ne3 _).trans h.px, h.ne1, h.ne2, h.ne3, h.ne4, h.ne5, h.ne6⟩
theorem RdAt.set4 (h : RdAt tb tp br ba pc pl X r q i o x5 x6 err cur w) (v : Value) : RdAt tb tp br ba pc pl X r q i o x5 x6 v cur (w.setCell ⟨br, 4, none⟩ v) :=
  ⟨fun i => (World.frozen?_setCell _ _ _ _).trans (h.fz i), fun i => (World.frozen?_setCell _ _ _ _).trans (h.fp i), (far_br (by decide) _).trans h.c0, (far_br (by decide) _).trans h.c1, (far_br (by decide) _).trans h.c2, (far_br (by decide) _).trans h.c3, World.cell?_setCell_same _ _ _ h.c4,
    (far_br (by decide) _).trans h.c5, (far_br (by decide) _).trans h.c6, (Below.heap_setCell _ _ _ _ h.ne1.symm).trans h.row, (far_blk h.ne2 _).trans h.p0, (far_blk h.ne2 _).trans h.p1, (far_blk h.ne2 _).trans h.p2, (far_blk h.ne3 _).trans h.px, h.ne1, h.ne2, h.ne3, h.ne4, h.ne5, h.ne6⟩
theorem RdAt.set5 (h : RdAt tb tp br ba pc pl X r q i o x5 x6 err cur w) (v : Int) : RdAt tb tp br ba pc pl X r q i o v x6 err cur (w.setCell ⟨br, 5, none⟩ (.int .i64 v)) :=
  ⟨fun i => (World.frozen?_setCell _ _ _ _).trans (h.fz i), fun i => (World.frozen?_setCell _ _ _ _).trans (h.fp i), (far_br (by decide) _).trans h.c0, (far_br (by decide) _).trans h.c1, (far_br (by decide) _).trans h.c2, (far_br (by decide) _).trans h.c3, (far_br (by decide) _).trans h.c4,
    World.cell?_setCell_same _ _ _ h.c5, (far_br (by decide) _).trans h.c6, (Below.heap_setCell _ _ _ _ h.ne1.symm).trans h.row, (far_blk h.ne2 _).trans h.p0, (far_blk h.ne2 _).trans h.p1, (far_blk h.ne2 _).trans h.p2, (far_blk h.ne3 _).trans h.px, h.ne1, h.ne2, h.ne3, h.ne4, h.ne5, h.ne6⟩
theorem RdAt.set6 (h : RdAt tb tp br ba pc pl X r q i o x5 x6 err cur w) (v : Int) : RdAt tb tp br ba pc pl X r q i o x5 v err cur (w.setCell ⟨br, 6, none⟩ (.int .i64 v)) :=
  ⟨fun i => (World.frozen?_setCell _ _ _ _).trans (h.fz i), fun i => (World.frozen?_setCell _ _ _ _).trans (h.fp i), (far_br (by decide) _).trans h.c0, (far_br (by decide) _).trans h.c1, (far_br (by decide) _).trans h.c2, (far_br (by decide) _).trans h.c3, (far_br (by decide) _).trans h.c4,
    (far_br (by decide) _).trans h.c5, World.cell?_setCell_same _ _ _ h.c6, (Below.heap_setCell _ _ _ _ h.ne1.symm).trans h.row, (far_blk h.ne2 _).trans h.p0, (far_blk h.ne2 _).trans h.p1, (far_blk h.ne2 _).trans h.p2, (far_blk h.ne3 _).trans h.px, h.ne1, h.ne2, h.ne3, h.ne4, h.ne5, h.ne6⟩
theorem RdAt.setI (h : RdAt tb tp br ba pc pl X r q i o x5 x6 err cur w) (v : Int) : RdAt tb tp br ba pc pl X r q v o x5 x6 err cur (w.setCell ⟨pc, 1, none⟩ (.int .i64 v)) :=
  ⟨fun i => (World.frozen?_setCell _ _ _ _).trans (h.fz i), fun i => (World.frozen?_setCell _ _ _ _).trans (h.fp i), (far_blk h.ne2.symm _).trans h.c0, (far_blk h.ne2.symm _).trans h.c1, (far_blk h.ne2.symm _).trans h.c2, (far_blk h.ne2.symm _).trans h.c3, (far_blk h.ne2.symm _).trans h.c4,
    (far_blk h.ne2.symm _).trans h.c5, (far_blk h.ne2.symm _).trans h.c6, (Below.heap_setCell _ _ _ _ h.ne4).trans h.row, (far_br (by decide) _).trans h.p0, World.cell?_setCell_same _ _ _ h.p1, (far_br (by decide) _).trans h.p2, (far_blk h.ne6 _).trans h.px, h.ne1, h.ne2, h.ne3, h.ne4, h.ne5, h.ne6⟩
theorem RdAt.setO (h : RdAt tb tp br ba pc pl X r q i o x5 x6 err cur w) (v : Int) : RdAt tb tp br ba pc pl X r q i v x5 x6 err cur (w.setCell ⟨pc, 2, none⟩ (.int .i64 v)) :=
  ⟨fun i => (World.frozen?_setCell _ _ _ _).trans (h.fz i), fun i => (World.frozen?_setCell _ _ _ _).trans (h.fp i), (far_blk h.ne2.symm _).trans h.c0, (far_blk h.ne2.symm _).trans h.c1, (far_blk h.ne2.symm _).trans h.c2, (far_blk h.ne2.symm _).trans h.c3, (far_blk h.ne2.symm _).trans h.c4,
    (far_blk h.ne2.symm _).trans h.c5, (far_blk h.ne2.symm _).trans h.c6, (Below.heap_setCell _ _ _ _ h.ne4).trans h.row, (far_br (by decide) _).trans h.p0, (far_br (by decide) _).trans h.p1, World.cell?_setCell_same _ _ _ h.p2, (far_blk h.ne6 _).trans h.px, h.ne1, h.ne2, h.ne3, h.ne4, h.ne5, h.ne6⟩
end

/-- The reader, by what is still to come. -/
def RdSt (tb tp br ba pc pl : Nat) (X : ByteArray) (rest : List UInt8) (w : World) : Prop :=
  ∃ (r q i o : Nat) (x5 x6 : Int) (cur : Array Value) (bs : List UInt8), RdAt tb tp br ba pc pl X r q i o x5 x6 .nilIface cur w ∧ cur.size = 4096 ∧ r + bs.length = q ∧ q ≤ 4096 ∧
    (∀ j b, bs[j]? = some b → cur[r + j]? = some (u8 b)) ∧ rest = bs ++ X.data.toList.drop (if i = 0 then o else X.size) ∧ ((i = 0 ∧ o ≤ X.size) ∨ (i = 1 ∧ o = 0))
section
variable {tb tp br ba pc pl : Nat} {X : ByteArray} {rest : List UInt8} {w w' : World}
/-- Where its four blocks are as they were, it is. -/
theorem RdSt.keep (h : RdSt tb tp br ba pc pl X rest w) (e1 : w'.heap[br]? = w.heap[br]?) (e2 : w'.heap[ba]? = w.heap[ba]?) (e3 : w'.heap[pc]? = w.heap[pc]?) (e4 : w'.heap[pl]? = w.heap[pl]?) :
    RdSt tb tp br ba pc pl X rest w' := by
  obtain ⟨r, q, i, o, x5, x6, cur, bs, h0, h1⟩ := h
  exact ⟨r, q, i, o, x5, x6, cur, bs, h0.keep e1 e2 e3 e4, h1⟩
end

end Go.Proofs.YthhmnnojgjpibaaGreatDoor
namespace Go.Proofs.YthhmnnojgjpibaaGreatDoor
open Go Go.RowKit

/-- The decoder's cells beside its buffer: those that reading turns, and the others. -/
structure DF where
  base : Nat → Option Value
  nb : Int
  err : Value
  line : Int
  lst : Int
  off : Int
def RF (f : DF) : Nat → Option Value := fun i =>
  if i = 18 then some (.int .i64 f.nb) else if i = 20 then some f.err else if i = 21 then some (.int .i64 f.line) else if i = 22 then some (.int .i64 f.lst) else if i = 23 then some (.int .i64 f.off) else f.base i

section
variable {f : DF}
theorem RF_nb (x : Int) : (fun j => if j = 18 then some (Value.int .i64 x) else RF f j) = RF { f with nb := x } := by
  funext j; simp only [RF]; split <;> rfl
theorem RF_err (x : Value) : (fun j => if j = 20 then some x else RF f j) = RF { f with err := x } := by
  funext j; simp only [RF]; by_cases h : j = 20 <;> simp [h]
theorem RF_line (x : Int) : (fun j => if j = 21 then some (Value.int .i64 x) else RF f j) = RF { f with line := x } := by
  funext j; simp only [RF]; by_cases h : j = 21 <;> simp [h]
theorem RF_lst (x : Int) : (fun j => if j = 22 then some (Value.int .i64 x) else RF f j) = RF { f with lst := x } := by
  funext j; simp only [RF]; by_cases h : j = 22 <;> simp [h]
theorem RF_off (x : Int) : (fun j => if j = 23 then some (Value.int .i64 x) else RF f j) = RF { f with off := x } := by
  funext j; simp only [RF]; by_cases h : j = 23 <;> simp [h]
theorem RF_base (i : Nat) (x : Value) (h : i ≠ 18 ∧ i ≠ 20 ∧ i ≠ 21 ∧ i ≠ 22 ∧ i ≠ 23) : (fun j => if j = i then some x else RF f j) = RF { f with base := fun j => if j = i then some x else f.base j } := by
  obtain ⟨h1, h2, h3, h4, h5⟩ := h
  funext j
  simp only [RF]
  by_cases e : j = i
  · subst e; simp [h1, h2, h3, h4, h5]
  · simp [e]
end

/-- A store into another cell of the block in which the buffer lies. -/
theorem three_other {w : World} {b o : Nat} {T : TypeId} {R : Nat → Option Value} {x y z : Value} (h : LibA.Three w b o T R x y z) (i : Nat) (hi : i < o ∨ o + 3 ≤ i) {old : Value} (hold : R i = some old) (v : Value) :
    LibA.Three (w.setCell ⟨b, i, none⟩ v) b o T (fun j => if j = i then some v else R j) x y z := by
  obtain ⟨cs, hbk, h0, h1, h2, hr⟩ := h
  have hlt : i < cs.size := (Array.getElem?_eq_some_iff.1 ((hr i hi).trans hold)).1
  refine ⟨_, Lib.heap_setCell_same (i := i) hbk v, by rw [Array.getElem?_setIfInBounds_ne (by omega)]; exact h0, by rw [Array.getElem?_setIfInBounds_ne (by omega)]; exact h1, by rw [Array.getElem?_setIfInBounds_ne (by omega)]; exact h2, fun j hj => ?_⟩
  by_cases hji : j = i
  · subst hji; simp [hlt]
  · rw [Array.getElem?_setIfInBounds_ne (fun e1 => hji e1.symm)]
    show cs[j]? = if j = i then some v else R j
    rw [if_neg hji]; exact hr j hj

/-- A buffer that holds bs: its row is block G's (none: nil). -/
def BF (T : TypeId) (R : Nat → Option Value) (b q : Nat) (G : Option Nat) (bs : List UInt8) (w : World) : Prop :=
  ∃ lr : Int, (G = none ∧ bs = [] ∧ LibA.Three w b q T R (.slice none 0 0) (.int .i64 0) (.int .i8 lr)) ∨
    ∃ g cap cur, G = some g ∧ g ≠ b ∧ LibA.Three w b q T R (.slice (some ⟨g, 0, none⟩) bs.length cap) (.int .i64 0) (.int .i8 lr) ∧ w.heap[g]? = some (.cells cur 5 (0, 0)) ∧
      bs.length ≤ cap ∧ cap ≤ maxLen ∧ 64 ≤ cap ∧ cur.size = cap ∧ cur.toList.take bs.length = bs.map u8
section
variable {T : TypeId} {R R' : Nat → Option Value} {b q : Nat} {G : Option Nat} {bs : List UInt8} {w w' : World}
theorem BF.keep (h : BF T R b q G bs w) (e1 : w'.heap[b]? = w.heap[b]?) (e2 : ∀ g, G = some g → w'.heap[g]? = w.heap[g]?) : BF T R b q G bs w' := by
  obtain ⟨lr, ⟨h1, h2, h3⟩ | ⟨g, cap, cur, h1, h2, h3, h4, h5⟩⟩ := h
  · exact ⟨lr, .inl ⟨h1, h2, h3.of_heap e1⟩⟩
  · exact ⟨lr, .inr ⟨g, cap, cur, h1, h2, h3.of_heap e1, (e2 g h1).trans h4, h5⟩⟩
/-- The other cells of its block turn. -/
theorem BF.turn (h : BF T R b q G bs w) (hb : ∀ V lr, LibA.Three w b q T R V (.int .i64 0) (.int .i8 lr) → LibA.Three w' b q T R' V (.int .i64 0) (.int .i8 lr)) (e2 : ∀ g, G = some g → w'.heap[g]? = w.heap[g]?) : BF T R' b q G bs w' := by
  obtain ⟨lr, ⟨h1, h2, h3⟩ | ⟨g, cap, cur, h1, h2, h3, h4, h5⟩⟩ := h
  · exact ⟨lr, .inl ⟨h1, h2, hb _ _ h3⟩⟩
  · exact ⟨lr, .inr ⟨g, cap, cur, h1, h2, hb _ _ h3, (e2 g h1).trans h4, h5⟩⟩
theorem BF.three (h : BF T R b q G bs w) : ∃ V lr, LibA.Three w b q T R V (.int .i64 0) (.int .i8 lr) := by
  obtain ⟨lr, ⟨h1, h2, h3⟩ | ⟨g, cap, cur, h1, h2, h3, h4, h5⟩⟩ := h
  · exact ⟨_, _, h3⟩
  · exact ⟨_, _, h3⟩
end

/-- The decoder in dd (type tD), with its reader; its own blocks are those of Fp; the buffer holds bs; rest is still to come, its first byte given back if not fresh. -/
structure DecSt (tD tb tp dd br ba pc pl : Nat) (X : ByteArray) (Fp : Nat → Prop) (f : DF) (bs rest : List UInt8) (fresh : Bool) (w : World) : Prop where
  nb : f.nb = if fresh then -1 else ((rest.headD 0).toNat : Int)
  ne : fresh = false → rest ≠ []
  rd : RdSt tb tp br ba pc pl X (if fresh then rest else rest.tail) w
  buf : ∃ G, BF tD (RF f) dd 7 G bs w ∧ ∀ g, G = some g → Fp g ∧ g ≠ dd ∧ g ≠ br ∧ g ≠ ba ∧ g ≠ pc ∧ g ≠ pl
  fp : Fp dd ∧ Fp br ∧ Fp ba ∧ Fp pc ∧ Fp pl
  lt : ∀ k, Fp k → k < w.heap.size
  dne : dd ≠ br ∧ dd ≠ ba ∧ dd ≠ pc ∧ dd ≠ pl

section
variable {tD tb tp dd br ba pc pl : Nat} {X : ByteArray} {Fp : Nat → Prop} {f : DF} {bs rest : List UInt8} {fresh : Bool} {w w' : World}
/-- Where the decoder's own blocks are as they were, it is. -/
theorem DecSt.keep (h : DecSt tD tb tp dd br ba pc pl X Fp f bs rest fresh w) (hs : w.heap.size ≤ w'.heap.size) (e : ∀ k, Fp k → w'.heap[k]? = w.heap[k]?) : DecSt tD tb tp dd br ba pc pl X Fp f bs rest fresh w' := by
  obtain ⟨G, h1, h3⟩ := h.buf
  obtain ⟨k1, k2, k3, k4, k5⟩ := h.fp
  exact ⟨h.nb, h.ne, h.rd.keep (e _ k2) (e _ k3) (e _ k4) (e _ k5), ⟨G, h1.keep (e _ k1) (fun g hg => e g (h3 g hg).1), h3⟩, h.fp, fun k hk => Nat.lt_of_lt_of_le (h.lt k hk) hs, h.dne⟩
/-- The decoder's cells turn, the reader goes on; the buffer stays. -/
theorem DecSt.upd (h : DecSt tD tb tp dd br ba pc pl X Fp f bs rest fresh w) {f' : DF} {rest' : List UInt8} {fresh' : Bool} (hb : ∀ V lr, LibA.Three w dd 7 tD (RF f) V (.int .i64 0) (.int .i8 lr) → LibA.Three w' dd 7 tD (RF f') V (.int .i64 0) (.int .i8 lr))
    (hk : ∀ k, k < w.heap.size → k ≠ dd → k ≠ br → k ≠ ba → k ≠ pc → w'.heap[k]? = w.heap[k]?) (hs : w.heap.size ≤ w'.heap.size) (hrd : RdSt tb tp br ba pc pl X (if fresh' then rest' else rest'.tail) w') (hnb : f'.nb = if fresh' then -1 else ((rest'.headD 0).toNat : Int)) (hne : fresh' = false → rest' ≠ []) :
    DecSt tD tb tp dd br ba pc pl X Fp f' bs rest' fresh' w' := by
  obtain ⟨G, h1, h3⟩ := h.buf
  refine ⟨hnb, hne, hrd, ⟨G, h1.turn hb (fun g hg => ?_), h3⟩, h.fp, fun k hk => Nat.lt_of_lt_of_le (h.lt k hk) hs, h.dne⟩
  obtain ⟨q0, q1, q2, q3, q4, _⟩ := h3 g hg
  exact hk g (h.lt g q0) q1 q2 q3 q4
/-- What its cells hold. -/
theorem DecSt.cell (h : DecSt tD tb tp dd br ba pc pl X Fp f bs rest fresh w) (i : Nat) (hi : i < 7 ∨ 10 ≤ i) : w.cell? ⟨dd, i, none⟩ = RF f i := by
  obtain ⟨G, h1, _⟩ := h.buf
  obtain ⟨V, lr, h2⟩ := h1.three
  exact h2.rest i hi
theorem DecSt.frozen (h : DecSt tD tb tp dd br ba pc pl X Fp f bs rest fresh w) (i : Nat) : w.frozen? ⟨dd, i, none⟩ = false := by
  obtain ⟨G, h1, _⟩ := h.buf
  obtain ⟨V, lr, h2⟩ := h1.three
  exact h2.f i
end

end Go.Proofs.YthhmnnojgjpibaaGreatDoor
namespace Go.Proofs.YthhmnnojgjpibaaGreatDoor
open Go Go.Lib

/-- What is written for a byte. -/
def escB (c : UInt8) : List UInt8 :=
  if c = 34 then [38, 35, 51, 52, 59] else if c = 39 then [38, 35, 51, 57, 59] else if c = 38 then [38, 97, 109, 112, 59] else if c = 60 then [38, 108, 116, 59]
  else if c = 62 then [38, 103, 116, 59] else if c = 9 then [38, 35, 120, 57, 59] else if c = 10 then [38, 35, 120, 65, 59] else if c = 13 then [38, 35, 120, 68, 59] else [c]
/-- What is written for a text. -/
def esc (l : List UInt8) : List UInt8 := l.flatMap escB
/-- A byte that stands for itself. -/
def plainB (c : UInt8) : Bool := c != 34 && c != 39 && c != 38 && c != 60 && c != 62 && c != 9 && c != 10 && c != 13

theorem escB_plain {c : UInt8} (h : plainB c = true) : escB c = [c] := by
  simp only [plainB, Bool.and_eq_true, bne_iff_ne, ne_eq] at h
  obtain ⟨⟨⟨⟨⟨⟨⟨h1, h2⟩, h3⟩, h4⟩, h5⟩, h6⟩, h7⟩, h8⟩ := h
  simp [escB, h1, h2, h3, h4, h5, h6, h7, h8]
theorem plain_high {c : UInt8} (h : 128 ≤ c.toNat) : plainB c = true := by
  simp only [plainB, Bool.and_eq_true, bne_iff_ne, ne_eq]
  refine ⟨⟨⟨⟨⟨⟨⟨?_, ?_⟩, ?_⟩, ?_⟩, ?_⟩, ?_⟩, ?_⟩, ?_⟩ <;> (rintro rfl; revert h; decide)
theorem esc_nil : esc [] = [] := rfl
theorem esc_append (a b : List UInt8) : esc (a ++ b) = esc a ++ esc b := by simp [esc]
theorem esc_cons (c : UInt8) (l : List UInt8) : esc (c :: l) = escB c ++ esc l := by simp [esc]
theorem esc_plain : ∀ {l : List UInt8}, (∀ c ∈ l, plainB c = true) → esc l = l
  | [], _ => rfl
  | c :: l, h => by rw [esc_cons, escB_plain (h c (by simp)), esc_plain fun d hd => h d (by simp [hd])]; rfl
theorem escB_len (c : UInt8) : (escB c).length ≤ 5 := by
  unfold escB
  repeat' split
  all_goals simp
theorem escB_pos (c : UInt8) : 1 ≤ (escB c).length := by
  unfold escB
  repeat' split
  all_goals simp
theorem esc_len : ∀ l : List UInt8, (esc l).length ≤ 5 * l.length
  | [] => by simp [esc]
  | c :: l => by
    have h1 := escB_len c
    have h2 := esc_len l
    rw [esc_cons, List.length_append, List.length_cons]
    omega
/-- No byte of what is written is a quotation mark, '<', '>' or a carriage return. -/
theorem escB_safe (c d : UInt8) (h : d ∈ escB c) : d ≠ 34 ∧ d ≠ 39 ∧ d ≠ 60 ∧ d ≠ 62 ∧ d ≠ 13 := by
  unfold escB at h
  repeat' split at h
  all_goals (simp only [List.mem_cons, List.not_mem_nil, or_false] at h)
  all_goals first
    | (rcases h with rfl | rfl | rfl | rfl | rfl <;> decide)
    | (rcases h with rfl | rfl | rfl | rfl <;> decide)
    | (subst h; simp_all)

/-! ### runes -/
/-- XML's range, on a rune. -/
def inR (r : Nat) : Bool := r == 9 || r == 10 || r == 13 || (32 ≤ r && r ≤ 55295) || (57344 ≤ r && r ≤ 65533) || (65536 ≤ r && r ≤ 1114111)
/-- Each rune of the text is in XML's range and is not U+FFFD. -/
inductive Good : List UInt8 → Prop
  | nil : Good []
  | step {l : List UInt8} (hne : l ≠ []) (hr : inR (decodeL l).1 = true) (hf : (decodeL l).1 ≠ 65533) (hg : Good (l.drop (decodeL l).2)) : Good l

theorem decodeL_low {c : UInt8} {t : List UInt8} (h : c.toNat < 128) : decodeL (c :: t) = (c.toNat, 1) := by
  rw [decodeL_N]
  simp [decodeN, h]
set_option maxRecDepth 100000 in
set_option maxHeartbeats 2000000 in
theorem decodeN_high (n b0 b1 b2 b3 : Nat) (h : 128 ≤ b0) : 128 ≤ (decodeN n b0 b1 b2 b3).1 ∧
    ((decodeN n b0 b1 b2 b3).2 = 1 ∨ ((decodeN n b0 b1 b2 b3).2 = 2 ∧ 1 < n ∧ b1 / 64 = 2) ∨ ((decodeN n b0 b1 b2 b3).2 = 3 ∧ 2 < n ∧ b1 / 64 = 2 ∧ b2 / 64 = 2) ∨
      ((decodeN n b0 b1 b2 b3).2 = 4 ∧ 3 < n ∧ b1 / 64 = 2 ∧ b2 / 64 = 2 ∧ b3 / 64 = 2)) := by
  unfold decodeN
  rw [if_neg (by omega)]
  by_cases c1 : b0 / 32 = 6 ∧ (1 < n ∧ b1 / 64 = 2)
  · rw [if_pos c1]
    split
    · exact ⟨by assumption, Or.inr (Or.inl ⟨rfl, c1.2.1, c1.2.2⟩)⟩
    · exact ⟨by decide, Or.inl rfl⟩
  rw [if_neg c1]
  by_cases c2 : b0 / 16 = 14 ∧ (1 < n ∧ b1 / 64 = 2) ∧ (2 < n ∧ b2 / 64 = 2)
  · rw [if_pos c2]
    split
    · rename_i hx
      exact ⟨by have := hx.1; simp only; omega, Or.inr (Or.inr (Or.inl ⟨rfl, c2.2.2.1, c2.2.1.2, c2.2.2.2⟩))⟩
    · exact ⟨by decide, Or.inl rfl⟩
  rw [if_neg c2]
  by_cases c3 : b0 / 8 = 30 ∧ (1 < n ∧ b1 / 64 = 2) ∧ (2 < n ∧ b2 / 64 = 2) ∧ (3 < n ∧ b3 / 64 = 2)
  · rw [if_pos c3]
    split
    · rename_i hx
      exact ⟨by have := hx.1; simp only; omega, Or.inr (Or.inr (Or.inr ⟨rfl, c3.2.2.2.1, c3.2.1.2, c3.2.2.1.2, c3.2.2.2.2⟩))⟩
    · exact ⟨by decide, Or.inl rfl⟩
  rw [if_neg c3]
  exact ⟨by decide, Or.inl rfl⟩
/-- A rune above ASCII: every byte of it is above ASCII, and it lies in the text. -/
theorem decodeL_high {c : UInt8} {t : List UInt8} (h : 128 ≤ c.toNat) :
    128 ≤ (decodeL (c :: t)).1 ∧ 1 ≤ (decodeL (c :: t)).2 ∧ (decodeL (c :: t)).2 ≤ (c :: t).length ∧ ∀ d ∈ (c :: t).take (decodeL (c :: t)).2, 128 ≤ d.toNat := by
  rw [decodeL_N]
  obtain ⟨hr, hw⟩ := decodeN_high (c :: t).length ((c :: t).getD 0 0).toNat ((c :: t).getD 1 0).toNat ((c :: t).getD 2 0).toNat ((c :: t).getD 3 0).toNat h
  revert hr hw
  generalize decodeN (c :: t).length ((c :: t).getD 0 0).toNat ((c :: t).getD 1 0).toNat ((c :: t).getD 2 0).toNat ((c :: t).getD 3 0).toNat = q
  obtain ⟨r, k⟩ := q
  simp only
  intro hr hw
  have hx : ∀ x : UInt8, x.toNat / 64 = 2 → 128 ≤ x.toNat := fun x e => by omega
  refine ⟨hr, by rcases hw with e | e | e | e <;> omega, by rw [List.length_cons] at *; rcases hw with e | e | e | e <;> omega, ?_⟩
  rcases hw with rfl | ⟨rfl, hn, e1⟩ | ⟨rfl, hn, e1, e2⟩ | ⟨rfl, hn, e1, e2, e3⟩
  · intro d hd
    simp at hd
    subst hd
    exact h
  · match t, hn with
    | x :: t', _ =>
      intro d hd
      simp at hd e1
      rcases hd with rfl | rfl
      · exact h
      · exact hx _ e1
  · match t, hn with
    | x :: y :: t', _ =>
      intro d hd
      simp at hd e1 e2
      rcases hd with rfl | rfl | rfl
      · exact h
      · exact hx _ e1
      · exact hx _ e2
  · match t, hn with
    | x :: y :: z :: t', _ =>
      intro d hd
      simp at hd e1 e2 e3
      rcases hd with rfl | rfl | rfl | rfl
      · exact h
      · exact hx _ e1
      · exact hx _ e2
      · exact hx _ e3

/-- The head of a good text. -/
theorem Good.head {c : UInt8} {t : List UInt8} (h : Good (c :: t)) : ∃ r k, decodeL (c :: t) = (r, k) ∧ 1 ≤ k ∧ k ≤ (c :: t).length ∧ inR r = true ∧ r ≠ 65533 ∧ Good ((c :: t).drop k) ∧
    ((c.toNat < 128 ∧ r = c.toNat ∧ k = 1) ∨ (128 ≤ r ∧ 128 ≤ c.toNat ∧ ∀ d ∈ (c :: t).take k, plainB d = true)) := by
  cases h with
  | step hne hr hf hg =>
    by_cases hc : c.toNat < 128
    · rw [decodeL_low hc] at hr hf hg ⊢
      exact ⟨_, _, rfl, by omega, by simp, hr, hf, hg, Or.inl ⟨hc, rfl, rfl⟩⟩
    · have hc' : 128 ≤ c.toNat := by omega
      obtain ⟨h1, h2, h3, h4⟩ := decodeL_high (t := t) hc'
      exact ⟨_, _, rfl, h2, h3, hr, hf, hg, Or.inr ⟨h1, hc', fun d hd => plain_high (h4 d hd)⟩⟩
/-- The law's own loop: each rune met is good. -/
theorem Good.back {l : List UInt8} (hne : l ≠ []) (hr : inR (decodeL l).1 = true) (hf : (decodeL l).1 ≠ 65533) {L : List UInt8} {p : Nat} (e : L.drop p = l)
    (h : Good l → Good L) : Good (L.drop (p + (decodeL l).2)) → Good L := fun hg => h (Good.step hne hr hf (by rw [← e, List.drop_drop] at *; exact hg))

theorem getD_eq_of_drop {L : List UInt8} {i : Nat} {c : UInt8} {t : List UInt8} (h : L.drop i = c :: t) : L.getD i 0 = c ∧ i < L.length ∧ L.drop (i + 1) = t := by
  have hl : i < L.length := by
    rcases Nat.lt_or_ge i L.length with h1 | h1
    · exact h1
    · rw [List.drop_eq_nil_of_le h1] at h; cases h
  rw [List.drop_eq_getElem_cons hl] at h
  injection h with h1 h2
  exact ⟨by simp [List.getD, hl, h1], hl, h2⟩
theorem take_succ_getD {L : List UInt8} {i : Nat} (h : i < L.length) : L.take (i + 1) = L.take i ++ [L.getD i 0] := by
  rw [List.take_add_one]
  simp [List.getD, h]
/-- Between two places all stands for itself. -/
theorem esc_between {L : List UInt8} {a i : Nat} (hai : a ≤ i) (h : ∀ d ∈ (L.drop a).take (i - a), plainB d = true) : esc (L.take i) = esc (L.take a) ++ (L.drop a).take (i - a) := by
  have e : L.take i = L.take a ++ (L.drop a).take (i - a) := by
    have := List.take_add (l := L) (i := a) (j := i - a)
    rwa [Nat.add_sub_cancel' hai] at this
  rw [e, esc_append, esc_plain h]
theorem between_add {L : List UInt8} {a i k : Nat} (hai : a ≤ i) (h : ∀ d ∈ (L.drop a).take (i - a), plainB d = true) (h2 : ∀ d ∈ (L.drop i).take k, plainB d = true) :
    ∀ d ∈ (L.drop a).take (i + k - a), plainB d = true := by
  intro d hd
  have e : (L.drop a).take (i + k - a) = (L.drop a).take (i - a) ++ (L.drop i).take k := by
    have := List.take_add (l := L.drop a) (i := i - a) (j := k)
    rw [List.drop_drop, Nat.add_sub_cancel' hai, show i - a + k = i + k - a by omega] at this
    exact this
  rw [e, List.mem_append] at hd
  rcases hd with hd | hd
  · exact h d hd
  · exact h2 d hd
/-- A special byte at i: what has been written is what is to be written up to it. -/
theorem esc_special {L : List UInt8} {a i : Nat} (hai : a ≤ i) (hi : i < L.length) (h : ∀ d ∈ (L.drop a).take (i - a), plainB d = true) :
    esc (L.take a) ++ (L.drop a).take (i - a) ++ escB (L.getD i 0) = esc (L.take (i + 1)) := by
  rw [take_succ_getD hi, esc_append, esc_between hai h, esc_cons, esc_nil, List.append_nil]

end Go.Proofs.YthhmnnojgjpibaaGreatDoor
namespace Go.Proofs.YthhmnnojgjpibaaGreatDoor
open Go Go.Lib

/-- A byte of a name, of those below 0x80. -/
def nameB (c : UInt8) : Bool := (65 ≤ c && c ≤ 90) || (97 ≤ c && c ≤ 122) || (48 ≤ c && c ≤ 57) || c == 95 || c == 58 || c == 46 || c == 45

/-- The names of entities that are written. -/
def entOf (c : UInt8) : List UInt8 := if c = 38 then [97, 109, 112] else if c = 60 then [108, 116] else [103, 116]
/-- The hexadecimal digit that is written. -/
def hexOf (c : UInt8) : UInt8 := if c = 9 then 57 else if c = 10 then 65 else 68
/-- The last decimal digit that is written. -/
def decOf (c : UInt8) : UInt8 := if c = 34 then 52 else 57

theorem escB_cases (c : UInt8) :
    (plainB c = true ∧ escB c = [c]) ∨ ((c = 34 ∨ c = 39) ∧ escB c = [38, 35, 51, decOf c, 59]) ∨ ((c = 9 ∨ c = 10 ∨ c = 13) ∧ escB c = [38, 35, 120, hexOf c, 59]) ∨
      ((c = 38 ∨ c = 60 ∨ c = 62) ∧ escB c = 38 :: (entOf c ++ [59])) := by
  by_cases h : plainB c = true
  · exact Or.inl ⟨h, escB_plain h⟩
  · simp only [plainB, Bool.and_eq_true, bne_iff_ne, ne_eq, not_and, Decidable.not_not] at h
    by_cases h1 : c = 34
    · subst h1; exact Or.inr (Or.inl ⟨Or.inl rfl, rfl⟩)
    by_cases h2 : c = 39
    · subst h2; exact Or.inr (Or.inl ⟨Or.inr rfl, rfl⟩)
    by_cases h3 : c = 38
    · subst h3; exact Or.inr (Or.inr (Or.inr ⟨Or.inl rfl, rfl⟩))
    by_cases h4 : c = 60
    · subst h4; exact Or.inr (Or.inr (Or.inr ⟨Or.inr (Or.inl rfl), rfl⟩))
    by_cases h5 : c = 62
    · subst h5; exact Or.inr (Or.inr (Or.inr ⟨Or.inr (Or.inr rfl), rfl⟩))
    by_cases h6 : c = 9
    · subst h6; exact Or.inr (Or.inr (Or.inl ⟨Or.inl rfl, rfl⟩))
    by_cases h7 : c = 10
    · subst h7; exact Or.inr (Or.inr (Or.inl ⟨Or.inr (Or.inl rfl), rfl⟩))
    by_cases h8 : c = 13
    · subst h8; exact Or.inr (Or.inr (Or.inl ⟨Or.inr (Or.inr rfl), rfl⟩))
    exact absurd (h ⟨⟨⟨⟨⟨⟨h1, h2⟩, h3⟩, h4⟩, h5⟩, h6⟩, h7⟩) h8

/-- An attribute as it is written: a name of one byte, a quotation mark, a text. -/
abbrev At := UInt8 × UInt8 × List UInt8
def atB (a : At) : List UInt8 := 32 :: a.1 :: 61 :: a.2.1 :: (esc a.2.2 ++ [a.2.1])
/-- '<a' ..attributes.. '>' text '</a>'. -/
def docB (as : List At) (t : List UInt8) : List UInt8 := 60 :: 97 :: (as.flatMap atB ++ 62 :: (esc t ++ [60, 47, 97, 62]))
/-- An attribute that can be read. -/
def AtOk (a : At) : Prop := (97 ≤ a.1 ∧ a.1 ≤ 122) ∧ (a.2.1 = 34 ∨ a.2.1 = 39) ∧ Good a.2.2

theorem docB_law (s : List UInt8) : docB [(98, 34, s), (99, 39, s)] s =
    [60, 97, 32, 98, 61, 34] ++ esc s ++ [34, 32, 99, 61, 39] ++ esc s ++ [39, 62] ++ esc s ++ [60, 47, 97, 62] := by
  simp [docB, atB]
theorem docB_small : docB [] [98] = [60, 97, 62, 98, 60, 47, 97, 62] := by decide

end Go.Proofs.YthhmnnojgjpibaaGreatDoor
