/- Types as data, and how they lie in memory: plain definitions and laws, with no program in sight. Maps with string keys that the call itself makes, whatever their elements: what a look-up and a store do to them. Plain laws of the model, over any program. The book of named types in memory; plain laws. W1 -/
import Derived.Test.YtnmgocbmofbppaaGreatDoorProg
import Derived.WalkKit
import Derived.Deep.Draws
import Derived.OwnWalk
import Derived.Maps.OwnOps
import Derived.Maps.OwnSet
import Derived.Lib.Hide
import Derived.KernelRfl
import Derived.Outline
import Derived.BigGuardPart
import Derived.Deep.DeepMust
import Derived.Deep.LoopGhost
import Derived.Deep.DeepCutAuto
import Derived.Deep.CutBlock
import Derived.Deep.QuietTactic
import Derived.BigQuiet
import Derived.WalkSpells
import Derived.Deep.Light
import Derived.Deep.RegionWith
import Derived.WalkLawsBesides
import Derived.StillTailTactics

set_option linter.unusedVariables false
set_option linter.unusedSimpArgs false

namespace Go.Proofs.YtnmgocbmofbppaaGreatDoor
open Go.RowKit

mutual
inductive Ty where
  | mk (kind n : Int) (s : ByteArray) (of : List Ty) (fields : List Fl)
inductive Fl where
  | mk (name tag : ByteArray) (emb : Bool) (t : Ty)
end

namespace Ty
def kind : Ty → Int | .mk k _ _ _ _ => k
def n : Ty → Int | .mk _ n _ _ _ => n
def s : Ty → ByteArray | .mk _ _ s _ _ => s
def of : Ty → List Ty | .mk _ _ _ o _ => o
def fields : Ty → List Fl | .mk _ _ _ _ f => f
end Ty
namespace Fl
def name : Fl → ByteArray | .mk a _ _ _ => a
def tag : Fl → ByteArray | .mk _ b _ _ => b
def emb : Fl → Bool | .mk _ _ c _ => c
def t : Fl → Ty | .mk _ _ _ t => t
end Fl

theorem block_of_add (a : Addr) (n : Nat) : (a.add n).block = a.block := by unfold Addr.add; split <;> rfl
theorem add_of_add (a : Addr) (i j : Nat) : (a.add i).add j = a.add (i + j) := by
  unfold Addr.add
  by_cases hi : i = 0 <;> by_cases hj : j = 0 <;> simp [hi, hj, Nat.add_assoc]

theorem below_of_drew {w w' : World} (h : Below w.drew.heap.size w.drew w') : Below w.heap.size w w' := ⟨h.os, h.tape, h.output, h.size, h.block⟩
theorem below_of_drewN {w w' : World} {n : Nat} (h : Below (w.drewN n).heap.size (w.drewN n) w') : Below w.heap.size w w' := ⟨h.os, h.tape, h.output, h.size, h.block⟩

/-- The form's own reach, in bytes. -/
abbrev big : Nat := 140737488351232

mutual
/-- The five cells 'cs' are the type T; all blocks that are read satisfy 'ok'. -/
def TyV (w : World) (ok : Nat → Prop) : Ty → List Value → Prop
  | .mk k n s of fs, cs => ∃ A co B cf, cs = [.int .i64 k, .int .i64 n, .string s, .slice A of.length co, .slice B fs.length cf] ∧ (s.size ≤ big ∧ of.length ≤ big ∧ fs.length ≤ big) ∧ TysV w ok of A 0 ∧ FlsV w ok fs B 0
/-- From element i of a slice at A on there lie these types. -/
def TysV (w : World) (ok : Nat → Prop) : List Ty → Option Addr → Nat → Prop
  | [], _, _ => True
  | t :: ts, A, i => (∃ b off cs, A = some ⟨b, off, none⟩ ∧ ok b ∧ TyV w ok t cs ∧ ∀ j v, cs[j]? = some v → w.cell? ⟨b, off + i * 5 + j, none⟩ = some v) ∧ TysV w ok ts A (i + 1)
def FlV (w : World) (ok : Nat → Prop) : Fl → List Value → Prop
  | .mk name tag emb t, cs => ∃ ds, cs = [.string name, .string tag, .bool emb] ++ ds ∧ (name.size ≤ big ∧ tag.size ≤ big) ∧ TyV w ok t ds
def FlsV (w : World) (ok : Nat → Prop) : List Fl → Option Addr → Nat → Prop
  | [], _, _ => True
  | f :: fs, A, i => (∃ b off cs, A = some ⟨b, off, none⟩ ∧ ok b ∧ FlV w ok f cs ∧ ∀ j v, cs[j]? = some v → w.cell? ⟨b, off + i * 8 + j, none⟩ = some v) ∧ FlsV w ok fs A (i + 1)
end

section
variable {w w' : World} {ok ok' : Nat → Prop}
mutual
theorem TyV.keep (hk : ∀ b, ok b → ok' b ∧ w'.heap[b]? = w.heap[b]?) : ∀ (T : Ty) (cs : List Value), TyV w ok T cs → TyV w' ok' T cs
  | .mk _ _ _ of fs, _, ⟨A, co, B, cf, h, h0, h1, h2⟩ => ⟨A, co, B, cf, h, h0, TysV.keep hk of A 0 h1, FlsV.keep hk fs B 0 h2⟩
theorem TysV.keep (hk : ∀ b, ok b → ok' b ∧ w'.heap[b]? = w.heap[b]?) : ∀ (ts : List Ty) (A : Option Addr) (i : Nat), TysV w ok ts A i → TysV w' ok' ts A i
  | [], _, _, _ => trivial
  | t :: ts, A, i, ⟨⟨a, o, cs, hA, ha, ht, hc⟩, hr⟩ =>
    ⟨⟨a, o, cs, hA, (hk _ ha).1, TyV.keep hk t cs ht, fun j v hv => (World.cell?_of_block (hk _ ha).2).trans (hc j v hv)⟩, TysV.keep hk ts A (i + 1) hr⟩
theorem FlV.keep (hk : ∀ b, ok b → ok' b ∧ w'.heap[b]? = w.heap[b]?) : ∀ (f : Fl) (cs : List Value), FlV w ok f cs → FlV w' ok' f cs
  | .mk _ _ _ t, _, ⟨ds, h, h0, h1⟩ => ⟨ds, h, h0, TyV.keep hk t ds h1⟩
theorem FlsV.keep (hk : ∀ b, ok b → ok' b ∧ w'.heap[b]? = w.heap[b]?) : ∀ (fs : List Fl) (A : Option Addr) (i : Nat), FlsV w ok fs A i → FlsV w' ok' fs A i
  | [], _, _, _ => trivial
  | f :: fs, A, i, ⟨⟨a, o, cs, hA, ha, ht, hc⟩, hr⟩ =>
    ⟨⟨a, o, cs, hA, (hk _ ha).1, FlV.keep hk f cs ht, fun j v hv => (World.cell?_of_block (hk _ ha).2).trans (hc j v hv)⟩, FlsV.keep hk fs A (i + 1) hr⟩
end

theorem TyV.below {B : Nat} {T : Ty} {cs : List Value} (h : TyV w (· < B) T cs) (hb : Below B w w') : TyV w' (· < B) T cs :=
  TyV.keep (fun b hb' => ⟨hb', hb.block b hb'⟩) T cs h

theorem TyV.drew {T : Ty} {cs : List Value} (h : TyV w (· < w.heap.size) T cs) : TyV w.drew (· < w.drew.heap.size) T cs :=
  @TyV.keep w w.drew (· < w.heap.size) (· < w.drew.heap.size) (fun _ hb' => ⟨hb', rfl⟩) T cs h
theorem TyV.drewN {T : Ty} {cs : List Value} (h : TyV w (· < w.heap.size) T cs) (n : Nat) : TyV (w.drewN n) (· < (w.drewN n).heap.size) T cs :=
  @TyV.keep w (w.drewN n) (· < w.heap.size) (· < (w.drewN n).heap.size) (fun _ hb' => ⟨hb', rfl⟩) T cs h
theorem TyV.grow {B : Nat} {T : Ty} {cs : List Value} (h : TyV w (· < B) T cs) (hb : Below B w w') (hB : B ≤ w.heap.size) : TyV w' (· < w'.heap.size) T cs :=
  TyV.keep (fun b hb' => ⟨by have := hb.size; omega, hb.block b hb'⟩) T cs h

theorem TyV.len {T : Ty} {cs : List Value} (h : TyV w ok T cs) : cs.length = 5 := by
  cases T; obtain ⟨A, co, B, cf, rfl, _⟩ := h; rfl
theorem FlV.len {f : Fl} {cs : List Value} (h : FlV w ok f cs) : cs.length = 8 := by
  cases f; obtain ⟨ds, rfl, _, h⟩ := h; simp [h.len]

/-- Element k of a list of types: its address, its cells. -/
theorem TysV.get : ∀ (ts : List Ty) (A : Option Addr) (i k : Nat) (t : Ty), TysV w ok ts A i → ts[k]? = some t →
    ∃ b off cs, A = some ⟨b, off, none⟩ ∧ ok b ∧ TyV w ok t cs ∧ ∀ j v, cs[j]? = some v → w.cell? ⟨b, off + (i + k) * 5 + j, none⟩ = some v
  | [], _, _, _, _, _, h => by simp at h
  | t :: ts, A, i, 0, t', h, e => by
    obtain rfl : t = t' := by simpa using e
    exact h.1
  | t :: ts, A, i, k + 1, t', h, e => by
    have := TysV.get ts A (i + 1) k t' h.2 (by simpa using e)
    rwa [show i + 1 + k = i + (k + 1) by omega] at this
theorem FlsV.get : ∀ (ts : List Fl) (A : Option Addr) (i k : Nat) (t : Fl), FlsV w ok ts A i → ts[k]? = some t →
    ∃ b off cs, A = some ⟨b, off, none⟩ ∧ ok b ∧ FlV w ok t cs ∧ ∀ j v, cs[j]? = some v → w.cell? ⟨b, off + (i + k) * 8 + j, none⟩ = some v
  | [], _, _, _, _, _, h => by simp at h
  | t :: ts, A, i, 0, t', h, e => by
    obtain rfl : t = t' := by simpa using e
    exact h.1
  | t :: ts, A, i, k + 1, t', h, e => by
    have := FlsV.get ts A (i + 1) k t' h.2 (by simpa using e)
    rwa [show i + 1 + k = i + (k + 1) by omega] at this
end

/-- A type among cells, as the walk asks for it. -/
structure TyCells (w : World) (b off : Nat) (k n : Int) (s : ByteArray) (A : Option Addr) (la ca : Nat) (B : Option Addr) (lb cb : Nat) : Prop where
  c0 : w.cell? ⟨b, off, none⟩ = some (.int .i64 k)
  c1 : w.cell? ⟨b, off + 1, none⟩ = some (.int .i64 n)
  c2 : w.cell? ⟨b, off + 2, none⟩ = some (.string s)
  c3 : w.cell? ⟨b, off + 3, none⟩ = some (.slice A la ca)
  c4 : w.cell? ⟨b, off + 4, none⟩ = some (.slice B lb cb)
theorem TyV.open_ {w : World} {ok : Nat → Prop} {t : Ty} {cs : List Value} (h : TyV w ok t cs) :
    ∃ A ca B cb, cs = [.int .i64 t.kind, .int .i64 t.n, .string t.s, .slice A t.of.length ca, .slice B t.fields.length cb] ∧ (t.s.size ≤ big ∧ t.of.length ≤ big ∧ t.fields.length ≤ big) ∧ TysV w ok t.of A 0 ∧ FlsV w ok t.fields B 0 := by
  cases t; exact h
/-- The type at place j of a slice, in the walk's words. -/
theorem TysV.at_ {w : World} {ok : Nat → Prop} {ts : List Ty} {A : Option Addr} {j : Nat} {t : Ty} (h : TysV w ok ts A 0) (e : ts[j]? = some t) :
    ∃ b off A' ca B' cb, A = some ⟨b, off, none⟩ ∧ ok b ∧ TyV w ok t [.int .i64 t.kind, .int .i64 t.n, .string t.s, .slice A' t.of.length ca, .slice B' t.fields.length cb] ∧
      TyCells w b (off + j * 5) t.kind t.n t.s A' t.of.length ca B' t.fields.length cb := by
  obtain ⟨b, off, cs, hA, ha, ht, hc⟩ := TysV.get ts A 0 j t h e
  have ht' := ht
  obtain ⟨A', ca, B', cb, rfl, _⟩ := ht.open_
  rw [Nat.zero_add] at hc
  exact ⟨b, off, A', ca, B', cb, hA, ha, ht', ⟨hc 0 _ rfl, hc 1 _ rfl, hc 2 _ rfl, hc 3 _ rfl, hc 4 _ rfl⟩⟩
/-- A field among cells. -/
structure FlCells (w : World) (b off : Nat) (name tag : ByteArray) (emb : Bool) (k n : Int) (s : ByteArray) (A : Option Addr) (la ca : Nat) (B : Option Addr) (lb cb : Nat) : Prop where
  c0 : w.cell? ⟨b, off, none⟩ = some (.string name)
  c1 : w.cell? ⟨b, off + 1, none⟩ = some (.string tag)
  c2 : w.cell? ⟨b, off + 2, none⟩ = some (.bool emb)
  c3 : w.cell? ⟨b, off + 3, none⟩ = some (.int .i64 k)
  c4 : w.cell? ⟨b, off + 4, none⟩ = some (.int .i64 n)
  c5 : w.cell? ⟨b, off + 5, none⟩ = some (.string s)
  c6 : w.cell? ⟨b, off + 6, none⟩ = some (.slice A la ca)
  c7 : w.cell? ⟨b, off + 7, none⟩ = some (.slice B lb cb)
theorem FlV.open_ {w : World} {ok : Nat → Prop} {f : Fl} {cs : List Value} (h : FlV w ok f cs) :
    ∃ ds, cs = [.string f.name, .string f.tag, .bool f.emb] ++ ds ∧ (f.name.size ≤ big ∧ f.tag.size ≤ big) ∧ TyV w ok f.t ds := by
  cases f; exact h
theorem FlsV.at_ {w : World} {ok : Nat → Prop} {fs : List Fl} {A : Option Addr} {j : Nat} {f : Fl} (h : FlsV w ok fs A 0) (e : fs[j]? = some f) :
    ∃ b off A' ca B' cb, A = some ⟨b, off, none⟩ ∧ ok b ∧ (f.name.size ≤ big ∧ f.tag.size ≤ big) ∧ TyV w ok f.t [.int .i64 f.t.kind, .int .i64 f.t.n, .string f.t.s, .slice A' f.t.of.length ca, .slice B' f.t.fields.length cb] ∧
      FlCells w b (off + j * 8) f.name f.tag f.emb f.t.kind f.t.n f.t.s A' f.t.of.length ca B' f.t.fields.length cb := by
  obtain ⟨b, off, cs, hA, ha, ht, hc⟩ := FlsV.get fs A 0 j f h e
  obtain ⟨ds, rfl, hs, ht⟩ := ht.open_
  have ht' := ht
  obtain ⟨A', ca, B', cb, rfl, _⟩ := ht.open_
  rw [Nat.zero_add] at hc
  exact ⟨b, off, A', ca, B', cb, hA, ha, hs, ht', ⟨hc 0 _ rfl, hc 1 _ rfl, hc 2 _ rfl, hc 3 _ rfl, hc 4 _ rfl, hc 5 _ rfl, hc 6 _ rfl, hc 7 _ rfl⟩⟩

mutual
/-- How great a type is: as laws.typeLeft counts. -/
def Ty.sz : Ty → Nat
  | .mk _ _ s of fs => 1 + s.size + szs of + szf fs
def szs : List Ty → Nat
  | [] => 0
  | t :: ts => t.sz + szs ts
def szf : List Fl → Nat
  | [] => 0
  | f :: fs => f.sz + szf fs
def Fl.sz : Fl → Nat
  | .mk name tag _ t => name.size + tag.size + t.sz
end
mutual
/-- What laws.typeLeft lets by. -/
def Ty.wf : Ty → Prop
  | .mk k _ _ of fs => (1 ≤ k ∧ k ≤ 15) ∧ of.length = (if k = 9 ∨ k = 10 ∨ k = 12 then 1 else 0) ∧ (k ≠ 13 → fs = []) ∧ wfs of ∧ wff fs
def wfs : List Ty → Prop
  | [] => True
  | t :: ts => t.wf ∧ wfs ts
def wff : List Fl → Prop
  | [] => True
  | f :: fs => f.wf ∧ wff fs
def Fl.wf : Fl → Prop
  | .mk _ _ _ t => t.wf
end
theorem szs_append : ∀ (a b : List Ty), szs (a ++ b) = szs a + szs b
  | [], b => by simp [szs]
  | t :: ts, b => by simp [szs, szs_append ts b, Nat.add_assoc]
theorem szf_append : ∀ (a b : List Fl), szf (a ++ b) = szf a + szf b
  | [], b => by simp [szf]
  | t :: ts, b => by simp [szf, szf_append ts b, Nat.add_assoc]
theorem wfs_append : ∀ (a b : List Ty), wfs (a ++ b) ↔ wfs a ∧ wfs b
  | [], b => by simp [wfs]
  | t :: ts, b => by simp [wfs, wfs_append ts b, and_assoc]
theorem wff_append : ∀ (a b : List Fl), wff (a ++ b) ↔ wff a ∧ wff b
  | [], b => by simp [wff]
  | t :: ts, b => by simp [wff, wff_append ts b, and_assoc]
theorem take_snoc {α : Type} {l : List α} {k : Nat} {x : α} (h : l[k]? = some x) : l.take (k + 1) = l.take k ++ [x] := by
  rw [List.take_add_one, h]; rfl
theorem szs_mem : ∀ (l : List Ty) (k : Nat) (t : Ty), l[k]? = some t → t.sz ≤ szs l
  | [], _, _, h => by simp at h
  | t :: ts, 0, t', h => by
    obtain rfl : t = t' := by simpa using h
    simp [szs]
  | t :: ts, k + 1, t', h => by
    have := szs_mem ts k t' (by simpa using h)
    simp only [szs]; omega
theorem szf_mem : ∀ (l : List Fl) (k : Nat) (t : Fl), l[k]? = some t → t.sz ≤ szf l
  | [], _, _, h => by simp at h
  | t :: ts, 0, t', h => by
    obtain rfl : t = t' := by simpa using h
    simp [szf]
  | t :: ts, k + 1, t', h => by
    have := szf_mem ts k t' (by simpa using h)
    simp only [szf]; omega
theorem wfs_mem : ∀ (l : List Ty) (k : Nat) (t : Ty), l[k]? = some t → wfs l → t.wf
  | [], _, _, h, _ => by simp at h
  | t :: ts, 0, t', h, hw => by
    obtain rfl : t = t' := by simpa using h
    exact hw.1
  | t :: ts, k + 1, t', h, hw => wfs_mem ts k t' (by simpa using h) hw.2
theorem wff_mem : ∀ (l : List Fl) (k : Nat) (t : Fl), l[k]? = some t → wff l → t.wf
  | [], _, _, h, _ => by simp at h
  | t :: ts, 0, t', h, hw => by
    obtain rfl : t = t' := by simpa using h
    exact hw.1
  | t :: ts, k + 1, t', h, hw => wff_mem ts k t' (by simpa using h) hw.2
theorem Ty.sz_pos (T : Ty) : 0 < T.sz := by cases T; simp [Ty.sz]; omega
end Go.Proofs.YtnmgocbmofbppaaGreatDoor
namespace Go.Proofs.YtnmgocbmofbppaaGreatDoor
open Go.RowKit

abbrev AL (α : Type) := List (ByteArray × α)
def AL.get {α : Type} : AL α → ByteArray → Option α
  | [], _ => none
  | (k, v) :: r, s => if s.toList == k.toList then some v else AL.get r s
def AL.put {α : Type} : AL α → ByteArray → α → AL α
  | [], s, x => [(s, x)]
  | (k, v) :: r, s, x => if s.toList == k.toList then (k, x) :: r else (k, v) :: AL.put r s x

theorem AL.toList_inj {a b : ByteArray} (h : a.toList = b.toList) : a = b := by
  rw [ByteArray.toList_eq, ByteArray.toList_eq] at h
  obtain ⟨⟨x⟩⟩ := a
  obtain ⟨⟨y⟩⟩ := b
  simpa using h
theorem AL.beq_iff {a b : ByteArray} : (a.toList == b.toList) = true ↔ a = b :=
  ⟨fun h => AL.toList_inj (by simpa using h), fun h => by subst h; simp⟩
theorem AL.get_put {α : Type} (l : AL α) (s t : ByteArray) (x : α) : (l.put s x).get t = if t = s then some x else l.get t := by
  induction l with
  | nil =>
    simp only [AL.put, AL.get]
    by_cases h : t = s
    · rw [if_pos h, if_pos (AL.beq_iff.2 h)]
    · rw [if_neg h, if_neg (fun e => h (AL.beq_iff.1 e))]
  | cons p r ih =>
    obtain ⟨k, v⟩ := p
    simp only [AL.put]
    by_cases hk : s = k
    · rw [if_pos (AL.beq_iff.2 hk)]
      subst hk
      simp only [AL.get]
      by_cases h : t = s
      · rw [if_pos (AL.beq_iff.2 h), if_pos h]
      · rw [if_neg (fun e => h (AL.beq_iff.1 e)), if_neg h, if_neg (fun e => h (AL.beq_iff.1 e))]
    · rw [if_neg (fun e => hk (AL.beq_iff.1 e))]
      simp only [AL.get]
      by_cases h : t = k
      · rw [if_pos (AL.beq_iff.2 h), if_pos (AL.beq_iff.2 h), if_neg (by rw [h]; exact fun e => hk e.symm)]
      · rw [if_neg (fun e => h (AL.beq_iff.1 e)), if_neg (fun e => h (AL.beq_iff.1 e)), ih]

/-- Block r is a map with string keys, whose entries are these, in this order. -/
def SMap (w : World) (r : Nat) (l : AL Value) : Prop :=
  ∃ es clock, w.heap[r]? = some (.map es clock) ∧ es.toList.map (fun e => (e.key, e.val)) = l.map (fun p => (Value.string p.1, p.2))

theorem SMap.keep {w w' : World} {r : Nat} {l : AL Value} (h : SMap w r l) (e : w'.heap[r]? = w.heap[r]?) : SMap w' r l := by
  obtain ⟨es, c, h1, h2⟩ := h; exact ⟨es, c, e.trans h1, h2⟩
theorem SMap.lt {w : World} {r : Nat} {l : AL Value} (h : SMap w r l) : r < w.heap.size := by
  obtain ⟨es, c, h1, _⟩ := h
  rcases Nat.lt_or_ge r w.heap.size with hl | hl
  · exact hl
  · rw [Array.getElem?_eq_none hl] at h1; cases h1
theorem SMap.new (w : World) : SMap (w.alloc (.map #[] 0)) w.heap.size [] := ⟨#[], 0, heap_alloc_new w _, rfl⟩

/-- Where a key stands. -/
def AL.idx {α : Type} : AL α → ByteArray → Nat → Option (Nat × α)
  | [], _, _ => none
  | (k, v) :: r, s, i => if s.toList == k.toList then some (i, v) else AL.idx r s (i + 1)

theorem findNow_s (s : ByteArray) : ∀ (es : List MapEntry) (l : AL Value) (i : Nat), es.map (fun e => (e.key, e.val)) = l.map (fun p => (Value.string p.1, p.2)) →
    Instr.findNow .string (.string s) es i = some (l.idx s i)
  | [], [], _, _ => rfl
  | [], _ :: _, _, h => by simp at h
  | _ :: _, [], _, h => by simp at h
  | e :: es, (k, v) :: l, i, h => by
    simp only [List.map_cons, List.cons.injEq, Prod.mk.injEq] at h
    obtain ⟨⟨hk, hv⟩, hr⟩ := h
    simp only [Instr.findNow, Instr.sameNow, hk, AL.idx, hv]
    rw [beq_toListBytes]
    cases hc : (s.toList == k.toList) with
    | true => simp
    | false => simp only [Bool.false_eq_true, if_false]; exact findNow_s s es l (i + 1) hr
theorem AL.idx_get {α : Type} (s : ByteArray) : ∀ (l : AL α) (i : Nat), (l.idx s i).map (·.2) = l.get s
  | [], _ => rfl
  | (k, v) :: r, i => by
    simp only [AL.idx, AL.get]
    split
    · rfl
    · exact AL.idx_get s r (i + 1)

section
variable {P : Program} {w : World} {T K E : TypeId} {r : Nat} {l : AL Value}

theorem run_checkKey_s (hk : P.underlying K = some .string) (b : Bool) (s : ByteArray) (n : Nat) : (Instr.checkKey b (n + 1) K (.string s)).run P w = .ok () w := by
  simp [Instr.checkKey, run_underlying hk]

theorem run_lookup_s (ht : P.underlying T = some (.map K E)) (hk : P.underlying K = some .string) (h : SMap w r l) (s : ByteArray) (z : Value) (hz : (zeroValue E).run P w = .ok z w) (cok : Bool) :
    (Instr.lookup T (.map (some r)) (.string s) cok).run P w = .ok (if cok then .tuple #[(l.get s).getD z, .bool (l.get s).isSome] else (l.get s).getD z) w := by
  obtain ⟨es, c, h1, h2⟩ := h
  have hf := findNow_s s es.toList l 0 h2
  have hg := AL.idx_get s l 0
  simp only [Instr.lookup, Instr.findKey]
  simp only [Sem.run_bind, run_underlying ht, Result.andThen_ok]
  simp [getObj, Sem.run, h1, run_checkKey_s hk, run_underlying hk, hf]
  cases hi : l.idx s 0 with
  | none =>
    rw [hi] at hg
    simp only [Option.map_none] at hg
    simp [hz, ← hg]
  | some p =>
    rw [hi] at hg
    simp only [Option.map_some] at hg
    simp [← hg]

theorem AL.put_idx {α : Type} (s : ByteArray) (x : α) : ∀ (l : AL α) (i : Nat), match l.idx s i with
    | none => l.put s x = l ++ [(s, x)]
    | some (j, _) => i ≤ j ∧ ∃ k, (l[j - i]?).map (·.1) = some k ∧ k = s ∧ l.put s x = l.set (j - i) (k, x)
  | [], i => rfl
  | (k, v) :: r, i => by
    simp only [AL.idx, AL.put]
    by_cases hk : s = k
    · rw [if_pos (AL.beq_iff.2 hk), if_pos (AL.beq_iff.2 hk)]
      exact ⟨Nat.le_refl _, k, by simp, hk.symm, by simp⟩
    · rw [if_neg (fun e => hk (AL.beq_iff.1 e)), if_neg (fun e => hk (AL.beq_iff.1 e))]
      have ih := AL.put_idx s x r (i + 1)
      cases hi : AL.idx r s (i + 1) with
      | none => rw [hi] at ih; simp only at ih ⊢; rw [ih]; rfl
      | some p =>
        obtain ⟨j, y⟩ := p
        rw [hi] at ih
        obtain ⟨h1, k', h2, h3, h4⟩ := ih
        refine ⟨by omega, k', ?_, h3, ?_⟩
        · rw [show j - i = (j - (i + 1)) + 1 by omega, List.getElem?_cons_succ]; exact h2
        · rw [h4, show j - i = (j - (i + 1)) + 1 by omega, List.set_cons_succ]

/-- Only map block r has turned. -/
theorem run_mapUpdate_s (ht : P.underlying T = some (.map K E)) (hk : P.underlying K = some .string) (h : SMap w r l) (s : ByteArray) (v : Value) :
    ∃ w', (Instr.mapUpdate T (.map (some r)) (.string s) v).run P w = .ok () w' ∧ SMap w' r (l.put s v) ∧ w.grownBy w' (some r) ∧ w'.heap.size = w.heap.size := by
  have hlt := h.lt
  obtain ⟨es, c, h1, h2⟩ := h
  have hf := findNow_s s es.toList l 0 h2
  have hp := AL.put_idx s v l 0
  have hset : ∀ o, w.grownBy { w with heap := w.heap.setIfInBounds r o } (some r) ∧ (w.heap.setIfInBounds r o)[r]? = some o ∧ (w.heap.setIfInBounds r o).size = w.heap.size := fun o => by
    refine ⟨⟨rfl, rfl, rfl, by simp, fun k _ hne => ?_⟩, by simp [hlt], by simp⟩
    have : k ≠ r := fun e => hne (by rw [e])
    simp [Ne.symm this]
  simp only [Instr.mapUpdate, Instr.findKey]
  simp only [Sem.run_bind, run_underlying ht, Result.andThen_ok]
  simp [getObj, setObj, Sem.run, h1, run_checkKey_s hk, run_underlying hk, hf]
  cases hi : l.idx s 0 with
  | none =>
    rw [hi] at hp
    simp only at hp
    obtain ⟨g1, g2, g3⟩ := hset (.map (es.push { key := .string s, val := v, born := c }) (c + 1))
    simp [Sem.run, h1]
    exact ⟨⟨_, _, g2, by rw [hp]; simp [h2]⟩, g1⟩
  | some p =>
    obtain ⟨j, y⟩ := p
    rw [hi] at hp
    obtain ⟨_, k, h3, rfl, h5⟩ := hp
    have he : (es[j]?).map (fun e => e.key) = some (.string k) := by
      have : (es.toList.map (fun e => (e.key, e.val)))[j]? = (l.map (fun p => (Value.string p.1, p.2)))[j]? := by rw [h2]
      simp only [List.getElem?_map, Array.getElem?_toList] at this
      cases hl : l[j]? with
      | none => simp [hl] at h3
      | some q =>
        simp [hl] at h3
        cases he : es[j]? with
        | none => simp [hl, he] at this
        | some e => simp [hl, he] at this; simp [this.1, h3]
    obtain ⟨g1, g2, g3⟩ := hset (.map (es.modify j fun e => { e with key := .string k, val := v }) c)
    simp [he, Instr.keyThatStays, Instr.sameBits, beq_toListBytes, Sem.run, h1]
    refine ⟨⟨_, _, g2, ?_⟩, g1⟩
    rw [h5, Nat.sub_zero, List.map_set, ← h2]
    apply List.ext_getElem?
    intro i
    simp [List.getElem?_set, List.getElem?_modify]
    by_cases hj : j = i
    · subst hj
      by_cases hlt : j < es.size
      · simp [hlt]
      · simp [hlt]
    · simp [hj]; rfl

/-- 'v, ok := m[k]' | 'm[k]': the arm '(at_lookup; refine wpList_lookup_s _ rfl _ _ T _ rfl K E Tryz.underlyingT Tryz.underlyingK _ h rfl _ rfl _ hz ?_)'. -/
theorem wpList_lookup_s {ops : Array Oper} {rest : List Oper} {o : Oper} {a : Act} {Q : Exit → Act → World → Prop} (w : World) (hg : o.guard = none) (m x : Operand) (T : TypeId) (cok : Bool) (hop : o.op = Op.lookup T m x cok)
    (K E : TypeId) (ht : P.underlying T = some (.map K E)) (hk : P.underlying K = some .string) (l : AL Value) (r : Nat) (hm : a.eval m = .map (some r)) (h : SMap w r l) (s : ByteArray) (hx : a.eval x = .string s) (z : Value)
    (hz : (zeroValue E).run P w = .ok z w) (hK : wpList P ops Q rest (a.put o.dst (if cok then .tuple #[(l.get s).getD z, .bool (l.get s).isSome] else (l.get s).getD z)) w) : wpList P ops Q (o :: rest) a w := by
  refine wpList_plain hg fun K' hK' => ?_
  unfold Oper.wp
  simp only [execOp, hop, hm, hx, Sem.run_bind, run_lookup_s ht hk h s z hz cok, Result.andThen]
  exact hK' _ _ hK

/-- The same, the value told. -/
theorem wpList_lookup_sv {ops : Array Oper} {rest : List Oper} {o : Oper} {a : Act} {Q : Exit → Act → World → Prop} (w : World) (hg : o.guard = none) (m x : Operand) (T : TypeId) (cok : Bool) (hop : o.op = Op.lookup T m x cok)
    (K E : TypeId) (ht : P.underlying T = some (.map K E)) (hk : P.underlying K = some .string) (l : AL Value) (r : Nat) (hm : a.eval m = .map (some r)) (h : SMap w r l) (s : ByteArray) (hx : a.eval x = .string s) (z : Value)
    (hz : (zeroValue E).run P w = .ok z w) (v : Value) (hv : (if cok then .tuple #[(l.get s).getD z, .bool (l.get s).isSome] else (l.get s).getD z) = v) (hK : wpList P ops Q rest (a.put o.dst v) w) : wpList P ops Q (o :: rest) a w :=
  wpList_lookup_s w hg m x T cok hop K E ht hk l r hm h s hx z hz (hv ▸ hK)

theorem wpList_mapUpdate_s {ops : Array Oper} {rest : List Oper} {o : Oper} {a : Act} {Q : Exit → Act → World → Prop} (w : World) (hg : o.guard = none) (m x y : Operand) (T : TypeId) (hop : o.op = Op.mapUpdate T m x y)
    (K E : TypeId) (ht : P.underlying T = some (.map K E)) (hk : P.underlying K = some .string) (l : AL Value) (r : Nat) (hm : a.eval m = .map (some r)) (h : SMap w r l) (s : ByteArray) (hx : a.eval x = .string s) (v : Value) (hy : a.eval y = v)
    (hK : ∀ w', SMap w' r (l.put s v) → w.grownBy w' (some r) → w'.heap.size = w.heap.size → wpList P ops Q rest (a.put o.dst undef) w') : wpList P ops Q (o :: rest) a w := by
  refine wpList_plain hg fun K' hK' => ?_
  obtain ⟨w', hrun, r1, r2, r3⟩ := run_mapUpdate_s ht hk h s v
  unfold Oper.wp
  simp [execOp, hop, hm, hx, hy, hrun, Result.andThen]
  exact hK' _ _ (hK w' r1 r2 r3)
end
end Go.Proofs.YtnmgocbmofbppaaGreatDoor
namespace Go.Proofs.YtnmgocbmofbppaaGreatDoor
open Go.RowKit

def emptyB : ByteArray := ⟨#[]⟩
def zeroTy : Ty := .mk 0 0 emptyB [] []
/-- The type that a name stands for; the zero type, if it stands for none. -/
def envT (env : AL Ty) (s : ByteArray) : Ty := (env.get s).getD zeroTy

/-- Well formed, or the zero type. -/
def Ty.wf0 (T : Ty) : Prop := T.wf ∨ T = zeroTy

def wfE (env : AL Ty) : Prop := ∀ s T, env.get s = some T → T.wf
theorem envT_wf0 {env : AL Ty} (h : wfE env) (s : ByteArray) : (envT env s).wf0 := by
  unfold envT
  cases he : env.get s with
  | none => exact Or.inr rfl
  | some T => exact Or.inl (h s T he)

/-- Map block mn holds the types of env under their names. -/
def NamedAt (w : World) (ok : Nat → Prop) (mn : Nat) (env : AL Ty) : Prop :=
  ∃ lv, SMap w mn lv ∧ ∀ s, (env.get s = none → lv.get s = none) ∧ ∀ T, env.get s = some T → ∃ cs : List Value, lv.get s = some (.agg cs.toArray) ∧ TyV w ok T cs

theorem NamedAt.keep {w w' : World} {ok ok' : Nat → Prop} {mn : Nat} {env : AL Ty} (h : NamedAt w ok mn env) (hm : w'.heap[mn]? = w.heap[mn]?) (hk : ∀ b, ok b → ok' b ∧ w'.heap[b]? = w.heap[b]?) : NamedAt w' ok' mn env := by
  obtain ⟨lv, h1, h2⟩ := h
  refine ⟨lv, h1.keep hm, fun s => ⟨(h2 s).1, fun T hT => ?_⟩⟩
  obtain ⟨cs, h3, h4⟩ := (h2 s).2 T hT
  exact ⟨cs, h3, TyV.keep hk T cs h4⟩

/-- The zero value of the type impl.Type. -/
abbrev z26 : Value := .agg #[.int .i64 0, .int .i64 0, .string ⟨#[]⟩, .slice none 0 0, .slice none 0 0]

theorem zeroTy_V (w : World) (ok : Nat → Prop) : TyV w ok zeroTy [.int .i64 0, .int .i64 0, .string ⟨#[]⟩, .slice none 0 0, .slice none 0 0] :=
  ⟨none, 0, none, 0, rfl, ⟨by decide, by decide, by decide⟩, trivial, trivial⟩

theorem NamedAt.look {w : World} {ok : Nat → Prop} {mn : Nat} {env : AL Ty} (h : NamedAt w ok mn env) (s : ByteArray) :
    ∃ lv, SMap w mn lv ∧ ∃ A ca B cb, (lv.get s).getD z26 = .agg #[.int .i64 (envT env s).kind, .int .i64 (envT env s).n, .string (envT env s).s, .slice A (envT env s).of.length ca, .slice B (envT env s).fields.length cb] ∧
      (lv.get s).isSome = (env.get s).isSome ∧
      TyV w ok (envT env s) [.int .i64 (envT env s).kind, .int .i64 (envT env s).n, .string (envT env s).s, .slice A (envT env s).of.length ca, .slice B (envT env s).fields.length cb] := by
  obtain ⟨lv, h1, h2⟩ := h
  refine ⟨lv, h1, ?_⟩
  cases he : env.get s with
  | none =>
    have hl := (h2 s).1 he
    have hT : envT env s = zeroTy := by simp [envT, he]
    rw [hT, hl]
    exact ⟨none, 0, none, 0, rfl, rfl, zeroTy_V w ok⟩
  | some T =>
    obtain ⟨cs, hl, ht⟩ := (h2 s).2 T he
    have hT : envT env s = T := by simp [envT, he]
    rw [hT, hl]
    have ht' := ht
    obtain ⟨A, ca, B, cb, rfl, _⟩ := ht.open_
    exact ⟨A, ca, B, cb, rfl, rfl, ht'⟩

/-- The names of env that a map of done ones does not have. -/
def undone (env : AL Ty) (l : AL Value) : Nat := env.countP fun p => (l.get p.1).isNone
theorem undone_put_le (env : AL Ty) (l : AL Value) (s : ByteArray) (v : Value) : undone env (l.put s v) ≤ undone env l := by
  refine List.countP_mono_left fun p _ hp => ?_
  rw [AL.get_put] at hp
  by_cases h : p.1 = s
  · simp [h] at hp
  · simpa [h] using hp
theorem get_mem {α : Type} : ∀ (l : AL α) (s : ByteArray) (x : α), l.get s = some x → (s, x) ∈ l
  | [], _, _, h => by simp [AL.get] at h
  | (k, v) :: r, s, x, h => by
    simp only [AL.get] at h
    split at h
    · rename_i hk
      obtain rfl := AL.beq_iff.1 hk
      obtain rfl := Option.some.inj h
      simp
    · exact List.mem_cons_of_mem _ (get_mem r s x h)
theorem countP_lt {α : Type} {p q : α → Bool} : ∀ {l : List α}, (∀ x ∈ l, q x = true → p x = true) → (∃ x ∈ l, p x = true ∧ q x = false) → l.countP q < l.countP p
  | [], _, ⟨_, h, _⟩ => by simp at h
  | y :: l, h, ⟨x, hx, h1, h2⟩ => by
    have hle : l.countP q ≤ l.countP p := List.countP_mono_left fun z hz => h z (List.mem_cons_of_mem _ hz)
    rcases List.mem_cons.1 hx with rfl | hx
    · simp [h1, h2]; omega
    · have ih := countP_lt (l := l) (fun z hz => h z (List.mem_cons_of_mem _ hz)) ⟨x, hx, h1, h2⟩
      have := h y (by simp)
      simp only [List.countP_cons]
      cases hq : q y <;> cases hp : p y <;> simp_all <;> omega
theorem undone_put_lt {env : AL Ty} {l : AL Value} {s : ByteArray} {T : Ty} (v : Value) (he : env.get s = some T) (hl : l.get s = none) : undone env (l.put s v) < undone env l := by
  refine countP_lt (fun p _ hp => ?_) ⟨_, get_mem env s T he, by simp [hl], by simp [AL.get_put]⟩
  rw [AL.get_put] at hp
  by_cases h : p.1 = s
  · simp [h] at hp
  · simpa [h] using hp
theorem undone_mono {env : AL Ty} {l l' : AL Value} (h : ∀ s, l.get s ≠ none → l'.get s ≠ none) : undone env l' ≤ undone env l := by
  refine List.countP_mono_left fun p _ hp => ?_
  have := h p.1
  simp only [Option.isNone_iff_eq_none] at hp ⊢
  exact Classical.byContradiction fun e => this e hp

/-- A map with string keys and bools. -/
def Bools (l : AL Value) : Prop := ∀ s v, l.get s = some v → ∃ b, v = .bool b
theorem Bools.put {l : AL Value} (h : Bools l) (s : ByteArray) (b : Bool) : Bools (l.put s (.bool b)) := by
  intro t v ht
  rw [AL.get_put] at ht
  split at ht
  · exact ⟨b, (Option.some.inj ht).symm⟩
  · exact h t v ht
theorem Bools.nil : Bools [] := fun _ _ h => by simp [AL.get] at h
theorem Bools.get {l : AL Value} (h : Bools l) (s : ByteArray) : ∃ b, (l.get s).getD (.bool false) = .bool b := by
  cases hl : l.get s with
  | none => exact ⟨false, rfl⟩
  | some v => obtain ⟨b, rfl⟩ := h s v hl; exact ⟨b, rfl⟩

/-- What the book's functions are handed: the book at bk, its map of named types at mn. -/
structure Bk (w : World) (ok : Nat → Prop) (bk mn mm : Nat) (env : AL Ty) (left : Int) : Prop where
  c0 : w.cell? ⟨bk, 0, none⟩ = some (.map (some mn))
  c1 : w.cell? ⟨bk, 1, none⟩ = some (.map (some mm))
  c2 : w.cell? ⟨bk, 2, none⟩ = some (.int .i64 left)
  nf : w.frozen? ⟨bk, 2, none⟩ = false
  nm : NamedAt w ok mn env
end Go.Proofs.YtnmgocbmofbppaaGreatDoor
namespace Go.Proofs.YtnmgocbmofbppaaGreatDoor
open Go.RowKit

theorem zero26 (w : World) : (zeroValue 26).run Tryz.prog w = .ok z26 w := by kernel_rfl
theorem zero4 (w : World) : (zeroValue 4).run Tryz.prog w = .ok (.bool false) w := by kernel_rfl

/-- The book's named types (mm and left play no part). -/
structure LBook (w : World) (ok : Nat → Prop) (bk mn _mm : Nat) (env : AL Ty) (_left : Int) : Prop where
  c0 : w.cell? ⟨bk, 0, none⟩ = some (.map (some mn))
  nm : NamedAt w ok mn env
/-- The state in which loops, lists and ends work: the book, the types, a map of done names. -/
structure LPre (w : World) (bk mn mm dn : Nat) (env : AL Ty) (left : Int) (l : AL Value) : Prop where
  book : LBook w (· < dn) bk mn mm env left
  hbk : bk < dn
  hmn : mn < dn
  dm : SMap w dn l
  bl : Bools l
theorem LPre.step {w w' : World} {bk mn mm dn : Nat} {env : AL Ty} {left : Int} {l l' : AL Value} (h : LPre w bk mn mm dn env left l) (hg : w.grownBy w' (some dn)) (hm : SMap w' dn l') (hl : Bools l') : LPre w' bk mn mm dn env left l' := by
  have hlt := h.dm.lt
  have hblk : ∀ b, b < dn → w'.heap[b]? = w.heap[b]? := fun b hb => hg.block b (by omega) (fun e => by injection e; omega)
  have hbk := h.hbk
  exact ⟨⟨(World.cell?_of_block (hblk _ hbk)).trans h.book.c0,
    h.book.nm.keep (hblk _ h.hmn) fun b hb => ⟨hb, hblk b hb⟩⟩, h.hbk, h.hmn, hm, hl⟩

/-- What loops, lists and ends leave. -/
def LPost (w : World) (dn : Nat) (l : AL Value) (e : Ending) (w' : World) : Prop :=
  ∃ r l', e = .returned (.bool r) ∧ SMap w' dn l' ∧ Bools l' ∧ (∀ s, l.get s ≠ none → l'.get s ≠ none) ∧ w.grownBy w' (some dn)

theorem grownBy_alloc (w : World) (o : Obj) (r : Option Nat) : w.grownBy (w.alloc o) r :=
  ⟨rfl, rfl, rfl, by simp, fun k hk _ => Below.heap_alloc w o k hk⟩
theorem LPre.of_heap {w w' : World} {bk mn mm dn : Nat} {env : AL Ty} {left : Int} {l : AL Value} (h : LPre w bk mn mm dn env left l) (e : w'.heap = w.heap) : LPre w' bk mn mm dn env left l :=
  ⟨⟨(World.cell?_of_block (by rw [e])).trans h.book.c0,
    h.book.nm.keep (by rw [e]) fun b hb => ⟨hb, by rw [e]⟩⟩, h.hbk, h.hmn, h.dm.keep (by rw [e]), h.bl⟩
theorem TyV.of_heap {w w' : World} {ok : Nat → Prop} {T : Ty} {cs : List Value} (h : TyV w ok T cs) (e : w'.heap = w.heap) : TyV w' ok T cs :=
  TyV.keep (fun b hb => ⟨hb, by rw [e]⟩) T cs h
theorem grownBy_of_drew {a : World} {b : World} {r : Option Nat} {d : Nat} (h : World.grownBy { a with drawn := d } b r) : a.grownBy b r := ⟨h.os, h.tape, h.output, h.size, h.block⟩
theorem grownBy_trans {a b c : World} {r : Nat} (h : a.grownBy b (some r)) (k : b.grownBy c (some r)) : a.grownBy c (some r) :=
  ⟨k.os.trans h.os, k.tape.trans h.tape, k.output.trans h.output, Nat.le_trans h.size k.size, fun i hi hne => (k.block i (Nat.lt_of_lt_of_le hi h.size) hne).trans (h.block i hi hne)⟩
theorem grownBy_drewN {a b : World} {r : Option Nat} (h : a.grownBy b r) (n : Nat) : a.grownBy (b.drewN n) r := ⟨h.os, h.tape, h.output, h.size, h.block⟩

set_option maxHeartbeats 1600000 in
set_option maxRecDepth 100000 in
theorem loops_named (env : AL Ty) (s : ByteArray) (n : Int) (va vb : Value) (w : World) (bk mn mm dn : Nat) (left : Int) (l : AL Value) (h : LPre w bk mn mm dn env left l)
    (rec : l.get s = none → ∀ (w' : World) (cs : List Value), LPre w' bk mn mm dn env left (l.put s (.bool true)) → TyV w' (· < dn) (envT env s) cs →
      Calls Tryz.prog 33 #[.pointer (some ⟨bk, 0, none⟩), .agg cs.toArray, .map (some dn)] w' (LPost w' dn (l.put s (.bool true)))) :
    Calls Tryz.prog 33 #[.pointer (some ⟨bk, 0, none⟩), .agg #[.int .i64 14, .int .i64 n, .string s, va, vb], .map (some dn)] w (LPost w dn l) := by
  have h1 := h.step (grownBy_alloc w (.cells #[.int .i64 14, .int .i64 n, .string s, va, vb] 26) _) (h.dm.keep (Below.heap_alloc w _ dn h.dm.lt)) h.bl
  have HR := Lib.hid rec
  clear rec
  cases hs : l.get s with
  | some v =>
    obtain ⟨b, rfl⟩ := h.bl s v hs
    have H1 := Lib.hid h1
    have hv : (l.get s).getD (.bool false) = .bool b := by rw [hs]; rfl
    have hi : (l.get s).isSome = true := by rw [hs]; rfl
    clear h1
    go_enter Tryz.func33, Tryz.ntmps33
    go_wp2_with (at_lookup; refine wpList_lookup_s _ rfl _ _ 103 true rfl 9 4 Tryz.underlying103 Tryz.underlying9 l dn rfl H1.out.dm s rfl (.bool false) (zero4 _) ?_)
    go_ret
    exact ⟨b, l, rfl, H1.out.dm, h.bl, fun _ h => h, grownBy_alloc _ _ _⟩
  | none =>
    have H1 := Lib.hid h1
    have HS := Lib.hid hs
    have hv : (l.get s).getD (.bool false) = .bool false := by rw [hs]; rfl
    have hi : (l.get s).isSome = false := by rw [hs]; rfl
    have HL := Lib.hid h.bl
    have hlt := h.dm.lt
    have hbk := h.hbk
    clear h1 hs
    go_enter Tryz.func33, Tryz.ntmps33
    go_wp2_with (first | (at_lookup; refine wpList_lookup_s _ rfl _ _ 103 true rfl 9 4 Tryz.underlying103 Tryz.underlying9 l dn rfl H1.out.dm s rfl (.bool false) (zero4 _) ?_) | (at_mapUpdate; refine wpList_mapUpdate_s _ rfl _ _ _ 103 rfl 9 4 Tryz.underlying103 Tryz.underlying9 l dn rfl H1.out.dm s rfl (.bool true) rfl ?_; intro w2 hm2 hg2 hz2; refine Hid.out ?_))
    refine Lib.hid ?_
    have h2 := H1.out.step hg2 hm2 (HL.out.put s true)
    have e0 : w2.cell? ⟨w.heap.size, 2, none⟩ = some (.string s) := by
      rw [World.cell?_of_block (w := w.alloc (.cells #[.int .i64 14, .int .i64 n, .string s, va, vb] 26)) (hg2.block w.heap.size (by simp) (fun e => by injection e; omega))]
      simp [go_sem]
    have f0 := h2.book.c0
    obtain ⟨lv, hlv, A, ca, B, cb, hval, _, hty⟩ := h2.book.nm.look s
    have hlk : (Instr.lookup 72 (.map (some mn)) (.string s) false).run Tryz.prog w2.drew =
        .ok (.agg #[.int .i64 (envT env s).kind, .int .i64 (envT env s).n, .string (envT env s).s, .slice A (envT env s).of.length ca, .slice B (envT env s).fields.length cb]) w2.drew := by
      rw [run_lookup_s (w := w2.drew) Tryz.underlying72 Tryz.underlying9 (hlv.keep rfl) s z26 (zero26 _) false]
      simp [hval]
    have H2 := Lib.hid h2
    have HT := Lib.hid hty
    have HG2 := Lib.hid hg2
    clear h2 hty hlv hval hg2
    go_upto_region 7 with fail
    go_still_tail 9, (by kernel_rfl)
    go_wp2_with fail
    refine (HR.out HS.out _ _ (by exact H2.out.of_heap rfl) (by exact HT.out.of_heap rfl)).mono ?_
    rintro e w3 ⟨r, l3, rfl, hm3, hb3, hk3, hg3⟩
    have e3 : w3.cell? ⟨w.heap.size, 2, none⟩ = some (.string s) :=
      (World.cell?_of_block (w := w2) ((grownBy_of_drew hg3).block w.heap.size (by have := HG2.out.size; simp at this; omega) (fun e => by injection e; omega))).trans e0
    have HG3 := Lib.hid (grownBy_of_drew hg3)
    have HB3 := Lib.hid hb3
    have HK3 := Lib.hid hk3
    clear hg3 hb3 hk3 e0 f0 hlk
    go_wp2_with (at_mapUpdate; refine wpList_mapUpdate_s _ rfl _ _ _ 103 rfl 9 4 Tryz.underlying103 Tryz.underlying9 l3 dn rfl hm3 s rfl (.bool false) rfl ?_; intro w4 hm4 hg4 hz4; have HG4 := Lib.hid hg4; clear hg4)
    go_ret
    refine ⟨r, _, rfl, hm4, HB3.out.put s false, fun t ht => ?_, grownBy_trans (grownBy_trans (grownBy_trans (grownBy_alloc w _ _) HG2.out) HG3.out) HG4.out⟩
    have := HK3.out t
    rw [AL.get_put] at this ⊢
    split
    · simp
    · rename_i hts; rw [if_neg hts] at this; exact this ht

/-- The contract of loops, lists and ends (function f) at a type, while at most c names are not done. -/
def LOk (f : FuncId) (env : AL Ty) (bk mn mm dn : Nat) (left : Int) (c : Nat) (T : Ty) : Prop :=
  ∀ (w : World) (l : AL Value) (cs : List Value), undone env l ≤ c → LPre w bk mn mm dn env left l → TyV w (· < dn) T cs →
    Calls Tryz.prog f #[.pointer (some ⟨bk, 0, none⟩), .agg cs.toArray, .map (some dn)] w (LPost w dn l)

theorem LPost.same {w w' : World} {dn : Nat} {l : AL Value} {b : Bool} (hm : SMap w' dn l) (hb : Bools l) (hg : w.grownBy w' (some dn)) : LPost w dn l (.returned (.bool b)) w' :=
  ⟨b, l, rfl, hm, hb, fun _ h => h, hg⟩

theorem loops_other {env : AL Ty} {bk mn mm dn : Nat} {left : Int} {c : Nat} {T : Ty} (h12 : T.kind ≠ 12) (h13 : T.kind ≠ 13) (h14 : T.kind ≠ 14) : LOk 33 env bk mn mm dn left c T := by
  intro w l cs _ h hT
  cases T with
  | mk k n s of fs =>
  simp only [Ty.kind] at h12 h13 h14
  obtain ⟨A, co, B, cf, rfl, _⟩ := hT
  have H := Lib.hid h
  clear h
  go_enter Tryz.func33, Tryz.ntmps33
  go_wp2
  go_ret
  exact .same (H.out.dm.keep (Below.heap_alloc w _ dn H.out.dm.lt)) H.out.bl (grownBy_alloc _ _ _)

theorem loops_ptr {env : AL Ty} {bk mn mm dn : Nat} {left : Int} {c : Nat} {n : Int} {s : ByteArray} {t : Ty} {fs : List Fl} (rec : LOk 33 env bk mn mm dn left c t) : LOk 33 env bk mn mm dn left c (.mk 12 n s [t] fs) := by
  intro w l cs hc h hT
  obtain ⟨A, co, B, cf, rfl, _, hof, _⟩ := hT
  obtain ⟨b, off, A', ca, B', cb, rfl, ha, hty, hcell⟩ := TysV.at_ (j := 0) hof rfl
  simp only [Nat.zero_mul, Nat.add_zero] at hcell
  obtain ⟨c0, c1, c2, c3, c4⟩ := hcell
  have hb : b < w.heap.size := Nat.lt_trans ha h.dm.lt
  have h1 : ∀ o, LPre (w.alloc o) bk mn mm dn env left l := fun o => h.step (grownBy_alloc w o _) (h.dm.keep (Below.heap_alloc w _ dn h.dm.lt)) h.bl
  have ht1 : ∀ o, TyV (w.alloc o) (· < dn) t _ := fun o => TyV.keep (fun b hb => ⟨hb, Below.heap_alloc w o b (Nat.lt_trans hb h.dm.lt)⟩) _ _ hty
  have R := Lib.hid rec
  have H1 := Lib.hid h1
  have HT := Lib.hid ht1
  clear rec h1 ht1 hof hty h
  go_enter Tryz.func33, Tryz.ntmps33
  go_wp2_with (go_at_call 33; refine (R.out _ l _ hc (by exact H1.out _) (by exact HT.out _)).mono ?_; rintro e w1 ⟨r, l1, rfl, hm1, hb1, hk1, hg1⟩; have X := Lib.hid (show _ ∧ _ ∧ _ ∧ _ from ⟨hm1, hb1, hk1, hg1⟩); clear hm1 hb1 hk1 hg1)
  go_ret
  exact ⟨r, l1, rfl, X.out.1, X.out.2.1, X.out.2.2.1, grownBy_trans (grownBy_alloc w _ _) X.out.2.2.2⟩

set_option maxHeartbeats 1600000 in
set_option maxRecDepth 100000 in
theorem loops_struct {env : AL Ty} {bk mn mm dn : Nat} {left : Int} {c : Nat} {n : Int} {s : ByteArray} {of : List Ty} {fs : List Fl} (rec : ∀ f ∈ fs, LOk 33 env bk mn mm dn left c f.t) : LOk 33 env bk mn mm dn left c (.mk 13 n s of fs) := by
  intro w l cs hc h hT
  obtain ⟨A, co, B, cf, rfl, hbig, _, hfs⟩ := hT
  have hbig : s.size ≤ 140737488351232 ∧ of.length ≤ 140737488351232 ∧ fs.length ≤ 140737488351232 := hbig
  have R := Lib.hid rec
  have H0 := Lib.hid h
  clear rec
  go_enter Tryz.func33, Tryz.ntmps33
  go_wp2_with fail
  go_loopw [56] (fun i wr => ∃ (j : Nat) (l' : AL Value), i = .int .i64 j ∧ j ≤ fs.length ∧ LPre wr bk mn mm dn env left l' ∧ undone env l' ≤ c ∧ (∀ s, l.get s ≠ none → l'.get s ≠ none) ∧ w.grownBy wr (some dn)) (fun i _ => fs.length - (intOf i).toNat)
  case atStart => exact ⟨0, l, rfl, Nat.zero_le _, H0.out.step (grownBy_alloc w _ _) (H0.out.dm.keep (Below.heap_alloc w _ dn H0.out.dm.lt)) H0.out.bl, hc, fun _ h => h, grownBy_alloc w _ _⟩
  case round =>
    obtain ⟨j, l', rfl, hj, hp, hc', hk, hg⟩ := hrel
    by_cases hlt : j < fs.length
    · obtain ⟨f, hf⟩ : ∃ f, fs[j]? = some f := ⟨_, List.getElem?_eq_getElem hlt⟩
      obtain ⟨b, off, A', ca, B', cb, rfl, ha, _, hty, hcell⟩ := FlsV.at_ hfs hf
      have hblk : ∀ b, b < dn → wr.heap[b]? = w.heap[b]? := fun b hb => hg.block b (Nat.lt_trans hb H0.out.dm.lt) (fun e => by injection e; omega)
      have ⟨e0, e1, e2, e3, e4, e5, e6, e7⟩ := hcell
      rw [← World.cell?_of_block (w' := wr) (hblk _ ha)] at e0 e1 e2 e3 e4 e5 e6 e7
      have ht1 : ∀ o, TyV (wr.alloc o) (· < dn) f.t _ := fun o => TyV.keep (fun b hb => ⟨hb, (Below.heap_alloc wr o b (Nat.lt_trans hb hp.dm.lt)).trans (hblk b hb)⟩) _ _ hty
      have h1 : ∀ o, LPre (wr.alloc o) bk mn mm dn env left l' := fun o => hp.step (grownBy_alloc wr o _) (hp.dm.keep (Below.heap_alloc wr _ dn hp.dm.lt)) hp.bl
      have hm := List.mem_of_getElem? hf
      have HF := Lib.hid (R.out f hm)
      have HT := Lib.hid ht1
      have H1 := Lib.hid h1
      have HP := Lib.hid hp
      have HK := Lib.hid hk
      have HG := Lib.hid hg
      clear hty hcell hblk hp hk hg hf hm ht1 h1
      have arm : ∀ o e w2, LPost (wr.alloc o) dn l' e w2 → ∃ r l2, e = .returned (.bool r) ∧ LPre w2 bk mn mm dn env left l2 ∧ undone env l2 ≤ c ∧ (∀ s, l.get s ≠ none → l2.get s ≠ none) ∧ w.grownBy w2 (some dn) := by
        rintro o e w2 ⟨r, l2, rfl, hm2, hb2, hk2, hg2⟩
        exact ⟨r, l2, rfl, (H1.out o).step hg2 hm2 hb2, Nat.le_trans (undone_mono hk2) hc', fun s hs => hk2 s (HK.out s hs), grownBy_trans (grownBy_trans HG.out (grownBy_alloc wr o _)) hg2⟩
      have ARM := Lib.hid arm
      clear arm
      cases hemb : f.emb with
      | true =>
        rw [hemb] at e2
        clear hemb
        go_wp2_with (go_at_call 33; refine (HF.out _ l' _ hc' (by exact H1.out _) (by exact HT.out _)).mono ?_; rintro e w2 hx; obtain ⟨r, l2, rfl, X⟩ := ARM.out _ _ _ hx; have Y := Lib.hid X; clear X hx)
        · go_ret
          exact ⟨_, l2, rfl, Y.out.1.dm, Y.out.1.bl, Y.out.2.2.1, Y.out.2.2.2⟩
        · go_roundw
          case rel => exact ⟨j + 1, l2, by go_num, by omega, Y.out⟩
          case measure => simp [intOf]; omega
      | false =>
        rw [hemb] at e2
        clear hemb
        go_wp2_with (go_at_call 33; refine (HF.out _ l' _ hc' (by exact H1.out _) (by exact HT.out _)).mono ?_; rintro e w2 hx; obtain ⟨r, l2, rfl, X⟩ := ARM.out _ _ _ hx; have Y := Lib.hid X; clear X hx)
        · go_ret
          exact ⟨_, l2, rfl, Y.out.1.dm, Y.out.1.bl, Y.out.2.2.1, Y.out.2.2.2⟩
        · go_roundw
          case rel => exact ⟨j + 1, l2, by go_num, by omega, Y.out⟩
          case measure => simp [intOf]; omega
        · go_roundw
          case rel => exact ⟨j + 1, l', by go_num, by omega, H1.out _, hc', HK.out, grownBy_trans HG.out (grownBy_alloc wr _ _)⟩
          case measure => simp [intOf]; omega
    · have HP := Lib.hid hp
      have HK := Lib.hid hk
      have HG := Lib.hid hg
      clear hp hk hg
      go_wp2
      go_ret
      exact ⟨_, l', rfl, HP.out.dm, HP.out.bl, HK.out, HG.out⟩

theorem undone_lt_of {env : AL Ty} {l : AL Value} {s : ByteArray} {c : Nat} {T : Ty} (v : Value) (he : env.get s = some T) (hl : l.get s = none) (hc : undone env l ≤ c) : ∃ c', c' < c ∧ undone env (l.put s v) ≤ c' := by
  have := undone_put_lt v he hl
  exact ⟨undone env (l.put s v), by omega, Nat.le_refl _⟩
theorem wf_of_ptr {k n : Int} {s : ByteArray} {of : List Ty} {fs : List Fl} (h : (Ty.mk k n s of fs).wf0) (hk : k = 9 ∨ k = 10 ∨ k = 12) : ∃ t, of = [t] ∧ t.wf := by
  rcases h with h | h
  · obtain ⟨_, h2, _, h4, _⟩ := h
    rw [if_pos hk] at h2
    obtain ⟨t, rfl⟩ := List.length_eq_one_iff.1 h2
    exact ⟨t, rfl, h4.1⟩
  · simp only [zeroTy, Ty.mk.injEq] at h
    obtain ⟨rfl, _⟩ := h
    simp at hk
theorem wff_of {k n : Int} {s : ByteArray} {of : List Ty} {fs : List Fl} (h : (Ty.mk k n s of fs).wf0) : wff fs := by
  rcases h with h | h
  · exact h.2.2.2.2
  · simp only [zeroTy, Ty.mk.injEq] at h
    obtain ⟨_, _, _, _, rfl⟩ := h
    trivial
theorem wfs_of {k n : Int} {s : ByteArray} {of : List Ty} {fs : List Fl} (h : (Ty.mk k n s of fs).wf0) : wfs of := by
  rcases h with h | h
  · exact h.2.2.2.1
  · simp only [zeroTy, Ty.mk.injEq] at h
    obtain ⟨_, _, _, rfl, _⟩ := h
    trivial
theorem mem_sz {f : Fl} {fs : List Fl} (h : f ∈ fs) : f.t.sz ≤ szf fs ∧ (wff fs → f.t.wf) := by
  obtain ⟨k, hk, rfl⟩ := List.getElem_of_mem h
  have he := List.getElem?_eq_getElem hk
  have h1 := szf_mem fs k _ he
  refine ⟨?_, fun hw => ?_⟩
  · generalize fs[k] = f at *
    cases f; simp only [Fl.sz, Fl.t] at *; omega
  · have h2 := wff_mem fs k _ he hw
    generalize fs[k] = f at *
    cases f; exact h2
theorem mem_szs {t : Ty} {ts : List Ty} (h : t ∈ ts) : t.sz ≤ szs ts ∧ (wfs ts → t.wf) := by
  obtain ⟨k, hk, rfl⟩ := List.getElem_of_mem h
  have he := List.getElem?_eq_getElem hk
  exact ⟨szs_mem ts k _ he, wfs_mem ts k _ he⟩

/-- loops at every type. -/
theorem loops_any {env : AL Ty} (hE : wfE env) {bk mn mm dn : Nat} {left : Int} : ∀ (c n : Nat) (T : Ty), T.sz ≤ n → T.wf0 → LOk 33 env bk mn mm dn left c T := by
  intro c
  induction c using Nat.strongRecOn with
  | _ c ihc =>
  intro n
  induction n with
  | zero => intro T h; have := T.sz_pos; omega
  | succ n ihn =>
    intro T hn hw
    cases T with
    | mk k n' s of fs =>
    simp only [Ty.sz] at hn
    by_cases h14 : k = 14
    · subst h14
      intro w l cs hc h hT
      obtain ⟨A, co, B, cf, rfl, _⟩ := hT
      refine loops_named env s n' _ _ w bk mn mm dn left l h fun hl w' cs' h' hT' => ?_
      cases he : env.get s with
      | none =>
        have hz : envT env s = zeroTy := by simp [envT, he]
        rw [hz] at hT'
        exact loops_other (c := c) (by decide) (by decide) (by decide) w' _ cs' (Nat.le_trans (undone_put_le env l s _) hc) h' hT'
      | some T =>
        obtain ⟨c', h1, h2⟩ := undone_lt_of (.bool true) he hl hc
        exact ihc c' h1 _ (envT env s) (Nat.le_refl _) (envT_wf0 hE s) w' _ cs' h2 h' hT'
    · by_cases h12 : k = 12
      · subst h12
        obtain ⟨t, rfl, hw'⟩ := wf_of_ptr hw (by simp)
        exact loops_ptr (ihn t (by simp only [szs] at hn; omega) (Or.inl hw'))
      · by_cases h13 : k = 13
        · subst h13
          exact loops_struct fun f hf => ihn f.t (by have := (mem_sz hf).1; omega) (Or.inl ((mem_sz hf).2 (wff_of hw)))
        · exact loops_other h12 h13 h14
end Go.Proofs.YtnmgocbmofbppaaGreatDoor
