/- ZZFields: what getTypeInfo says, copied. -/
import Derived.Test.YtnmgocbmofbppaaGreatDoorA26
import Derived.Test.YtnmgocbmofbppaaGreatDoorA27
import Derived.Deep.RegionHeldLaw
import Derived.Deep.RegionHeld3
import Derived.WalkMore
import Derived.KernelRfl
import Derived.Outline
import Derived.BigGuardPart
import Derived.Deep.DeepMust
import Derived.Deep.LoopGhost
import Derived.Deep.DeepCutAuto
import Derived.Deep.CutBlock
import Derived.Deep.QuietTactic
import Derived.BigQuiet
import Derived.Lib.Hide
import Derived.WalkSpells
import Derived.Deep.Light
import Derived.Deep.RegionWith
import Derived.WalkLawsBesides
import Derived.StillTailTactics

set_option linter.unusedVariables false
set_option linter.unusedSimpArgs false

namespace Go.Proofs.YtnmgocbmofbppaaGreatDoor
open Go.RowKit

/-- A way's cells. -/
def IdxV (w : World) (v : Value) (ix : List Nat) : Prop := ∃ ib ic, v = .slice (some ⟨ib, 0, none⟩) ix.length ic ∧ ∀ j y : Nat, ix[j]? = some y → w.cell? ⟨ib, j, none⟩ = some (.int .i64 (y : Int))
def ParV (w : World) (v : Value) (ps : List ByteArray) : Prop := ∃ A pc, v = .slice A ps.length pc ∧ ∀ (j : Nat) (y : ByteArray), ps[j]? = some y → ∃ g, A = some ⟨g, 0, none⟩ ∧ w.cell? ⟨g, j, none⟩ = some (.string y)
/-- What ZZFields says of a field. -/
def ZzV (w : World) (vs : List Value) (x : Fx) : Prop := ∃ pv iv, vs = [.string x.fi.xmlns, .string x.fi.name, pv, .int .i64 x.fi.flags, iv] ∧ ParV w pv x.fi.parents ∧ IdxV w iv x.idx ∧ x.idx.length ≤ 1000000 ∧ x.fi.parents.length ≤ 1000000
def ZzSh (vs : List Value) : Prop := ∃ (a b : ByteArray) (A : Option Addr) (n c : Nat) (f : Int) (I : Option Addr) (m d : Nat), vs = [.string a, .string b, .slice A n c, .int .i64 f, .slice I m d]
theorem IdxV.keep {w w' : World} {v : Value} {ix : List Nat} (h : IdxV w v ix) (hb : ∀ b, b < w.heap.size → w'.heap[b]? = w.heap[b]?) : IdxV w' v ix := by
  obtain ⟨ib, ic, h1, h2⟩ := h
  exact ⟨ib, ic, h1, fun j y e => (World.cell?_of_block (hb ib (lt_cell (h2 j y e)))).trans (h2 j y e)⟩
theorem ParV.keep {w w' : World} {v : Value} {ps : List ByteArray} (h : ParV w v ps) (hb : ∀ b, b < w.heap.size → w'.heap[b]? = w.heap[b]?) : ParV w' v ps := by
  obtain ⟨A, pc, h1, h2⟩ := h
  refine ⟨A, pc, h1, fun j y e => ?_⟩
  obtain ⟨g, h3, h4⟩ := h2 j y e
  exact ⟨g, h3, (World.cell?_of_block (hb g (lt_cell h4))).trans h4⟩
theorem ZzV.keep {w w' : World} {vs : List Value} {x : Fx} (h : ZzV w vs x) (hb : ∀ b, b < w.heap.size → w'.heap[b]? = w.heap[b]?) : ZzV w' vs x := by
  obtain ⟨pv, iv, h1, h2, h3, h4⟩ := h
  exact ⟨pv, iv, h1, h2.keep hb, h3.keep hb, h4⟩
theorem FxAt.zz {w : World} {g o : Nat} {x : Fx} (h : FxAt w g o x) : ∃ ib ic A pc, (w.cell? ⟨g, o, none⟩ = some (.slice (some ⟨ib, 0, none⟩) x.idx.length ic) ∧ w.cell? ⟨g, o + 1, none⟩ = some (.string x.fi.name) ∧ w.cell? ⟨g, o + 2, none⟩ = some (.string x.fi.xmlns) ∧
      w.cell? ⟨g, o + 3, none⟩ = some (.int .i64 x.fi.flags) ∧ w.cell? ⟨g, o + 4, none⟩ = some (.slice A x.fi.parents.length pc)) ∧ ZzV w [.string x.fi.xmlns, .string x.fi.name, .slice A x.fi.parents.length pc, .int .i64 x.fi.flags, .slice (some ⟨ib, 0, none⟩) x.idx.length ic] x := by
  obtain ⟨ib, ic, A, pc, hc, hq⟩ := h.at_
  refine ⟨ib, ic, A, pc, hc, _, _, rfl, ?_⟩
  obtain ⟨ib', ic', A', pc', e1, _, h3, _, h5, h6, h7⟩ := hq
  injection e1 with e1 e2
  injection e1 with e1 _ e3
  injection e1 with e1
  injection e1 with e1
  injection e2 with _ e2
  injection e2 with _ e2
  injection e2 with _ e2
  injection e2 with e2 _
  injection e2 with e2 _ e4
  subst e1 e2 e3 e4
  refine ⟨⟨_, _, rfl, fun j y e => ?_⟩, ⟨_, _, rfl, h3⟩, h5, h6⟩
  obtain ⟨g', h8, _, h9⟩ := h7 j y e
  exact ⟨g', h8, h9⟩
theorem ZzV.len {w : World} {vs : List Value} {x : Fx} (h : ZzV w vs x) : vs.length = 5 := by
  obtain ⟨pv, iv, rfl, _⟩ := h
  rfl
theorem ZzV.sh {w : World} {vs : List Value} {x : Fx} (h : ZzV w vs x) : ZzSh vs := by
  obtain ⟨pv, iv, rfl, ⟨A, pc, rfl, _⟩, ⟨ib, ic, rfl, _⟩, _⟩ := h
  exact ⟨_, _, _, _, _, _, _, _, _, rfl⟩
/-- The rows that ZZFields makes. -/
def RowsZ (w : World) (A : Option Addr) (fs : List Fx) : Prop := ∀ (i : Nat) (x : Fx), fs[i]? = some x → ∃ g vs, A = some ⟨g, 0, none⟩ ∧ ZzV w vs x ∧ ∀ (k : Nat) (u : Value), vs[k]? = some u → w.cell? ⟨g, i * 5 + k, none⟩ = some u
/-- What ZZFields leaves. -/
structure ZzPost (tg : ByteArray → ByteArray) (ex : ByteArray → Bool) (l : AL Ty) (n0 : Nat) (am : Am) (n : Nat) (fs : List Fl) (y : Nat) (w : World) (e : Ending) (w' : World) : Prop where
  nx : NX (fun k => Nm am k ∨ k = y) w w'
  res : ∀ t, gti tg ex l n fs = .ok t → ∃ A cap nvs, e = .returned (.tuple #[.slice A t.fs.length cap, .agg nvs, .bool t.xn.isSome, .nilIface]) ∧ RowsZ w' A t.fs ∧ ZzSh nvs.toList ∧ ∀ x, t.xn = some x → ZzV w' nvs.toList x
  err : ∀ c, gti tg ex l n fs = .error c → NX (Nm am) w w' ∧ ∃ ev nvs, e = .returned (.tuple #[.slice none 0 0, .agg nvs, .bool false, ev]) ∧ ZzSh nvs.toList ∧ GErr n0 am w.heap.size w' c ev
theorem GErr.same {n0 n1 : Nat} {am : Am} {w w' : World} {c : Bool} {ev : Value} (h : GErr n0 am n1 w c ev) (hs : ∀ b : Nat, w'.heap[b]? = w.heap[b]?) (hz : w.heap.size ≤ w'.heap.size) : GErr n0 am n1 w' c ev := by
  obtain ⟨eb, h1, h2⟩ := h
  refine ⟨eb, h1, ?_⟩
  cases c with
  | true =>
    obtain ⟨h3, ty, T, ⟨h4, h5⟩, h6, h7, h8⟩ := h2
    refine ⟨h3, ty, T, ⟨(World.cell?_of_block (hs eb)).trans h4, fun k q1 q2 => ?_⟩, h6, h7, RT.keep (fun i hi => ⟨⟨hi.1, by have := hi.2.1; omega, hi.2.2⟩, hs i⟩) (fun _ _ e => e) _ _ h8⟩
    obtain ⟨s, hs'⟩ := h5 k q1 q2
    exact ⟨s, (World.cell?_of_block (hs eb)).trans hs'⟩
  | false =>
    obtain ⟨h3, s, h4⟩ := h2
    exact ⟨h3, s, (World.cell?_of_block (hs eb)).trans h4⟩
theorem set5cells {w : World} {x : Nat} {o0 o1 o2 o3 o4 a0 a1 a2 a3 a4 : Value} {t : TypeId} (h : w.heap[x]? = some (.cells #[o0, o1, o2, o3, o4] t)) :
    (((((w.setCell ⟨x, 0, none⟩ a0).setCell ⟨x, 1, none⟩ a1).setCell ⟨x, 2, none⟩ a2).setCell ⟨x, 3, none⟩ a3).setCell ⟨x, 4, none⟩ a4).cell? ⟨x, 0, none⟩ = some a0 ∧ (((((w.setCell ⟨x, 0, none⟩ a0).setCell ⟨x, 1, none⟩ a1).setCell ⟨x, 2, none⟩ a2).setCell ⟨x, 3, none⟩ a3).setCell ⟨x, 4, none⟩ a4).cell? ⟨x, 1, none⟩ = some a1 ∧
    (((((w.setCell ⟨x, 0, none⟩ a0).setCell ⟨x, 1, none⟩ a1).setCell ⟨x, 2, none⟩ a2).setCell ⟨x, 3, none⟩ a3).setCell ⟨x, 4, none⟩ a4).cell? ⟨x, 2, none⟩ = some a2 ∧ (((((w.setCell ⟨x, 0, none⟩ a0).setCell ⟨x, 1, none⟩ a1).setCell ⟨x, 2, none⟩ a2).setCell ⟨x, 3, none⟩ a3).setCell ⟨x, 4, none⟩ a4).cell? ⟨x, 3, none⟩ = some a3 ∧
    (((((w.setCell ⟨x, 0, none⟩ a0).setCell ⟨x, 1, none⟩ a1).setCell ⟨x, 2, none⟩ a2).setCell ⟨x, 3, none⟩ a3).setCell ⟨x, 4, none⟩ a4).cell? ⟨x, 4, none⟩ = some a4 := by
  have hc := (copied5 (a0 := a0) (a1 := a1) (a2 := a2) (a3 := a3) (a4 := a4) h).1
  refine ⟨?_, ?_, ?_, ?_, ?_⟩ <;> (simp only [World.cell?, hc]; rfl)
/-- The same behind a draw. -/
theorem set5d {w : World} {x : Nat} {o0 o1 o2 o3 o4 : Value} {t : TypeId} (a0 a1 a2 a3 a4 : Value) (h : w.heap[x]? = some (.cells #[o0, o1, o2, o3, o4] t)) :
    (((((w.setCell ⟨x, 0, none⟩ a0).setCell ⟨x, 1, none⟩ a1).setCell ⟨x, 2, none⟩ a2).setCell ⟨x, 3, none⟩ a3).setCell ⟨x, 4, none⟩ a4).drew.cell? ⟨x, 0, none⟩ = some a0 ∧ (((((w.setCell ⟨x, 0, none⟩ a0).setCell ⟨x, 1, none⟩ a1).setCell ⟨x, 2, none⟩ a2).setCell ⟨x, 3, none⟩ a3).setCell ⟨x, 4, none⟩ a4).drew.cell? ⟨x, 1, none⟩ = some a1 ∧
    (((((w.setCell ⟨x, 0, none⟩ a0).setCell ⟨x, 1, none⟩ a1).setCell ⟨x, 2, none⟩ a2).setCell ⟨x, 3, none⟩ a3).setCell ⟨x, 4, none⟩ a4).drew.cell? ⟨x, 2, none⟩ = some a2 ∧ (((((w.setCell ⟨x, 0, none⟩ a0).setCell ⟨x, 1, none⟩ a1).setCell ⟨x, 2, none⟩ a2).setCell ⟨x, 3, none⟩ a3).setCell ⟨x, 4, none⟩ a4).drew.cell? ⟨x, 3, none⟩ = some a3 ∧
    (((((w.setCell ⟨x, 0, none⟩ a0).setCell ⟨x, 1, none⟩ a1).setCell ⟨x, 2, none⟩ a2).setCell ⟨x, 3, none⟩ a3).setCell ⟨x, 4, none⟩ a4).drew.cell? ⟨x, 4, none⟩ = some a4 := by
  obtain ⟨W, hW⟩ : ∃ W, W = ((((w.setCell ⟨x, 0, none⟩ a0).setCell ⟨x, 1, none⟩ a1).setCell ⟨x, 2, none⟩ a2).setCell ⟨x, 3, none⟩ a3).setCell ⟨x, 4, none⟩ a4 := ⟨_, rfl⟩
  have hc := (copied5 (a0 := a0) (a1 := a1) (a2 := a2) (a3 := a3) (a4 := a4) h).1
  rw [← hW] at hc ⊢
  have hc : W.drew.heap[x]? = _ := hc
  refine ⟨?_, ?_, ?_, ?_, ?_⟩ <;> (simp only [World.cell?, hc]; rfl)
/-- Kept, but for a block whose first cell is an empty text. -/
theorem ZzV.keepBox {w w' : World} {vs : List Value} {x : Fx} {X : Nat} (h : ZzV w vs x) (hq : HeadQ x.fi) (h0 : w.cell? ⟨X, 0, none⟩ = some (.string ⟨#[]⟩)) (hb : ∀ b, b < w.heap.size → b ≠ X → w'.heap[b]? = w.heap[b]?) : ZzV w' vs x := by
  obtain ⟨pv, iv, h1, ⟨A, pc, h2, h3⟩, ⟨ib, ic, h4, h5⟩, h6⟩ := h
  refine ⟨pv, iv, h1, ⟨A, pc, h2, fun j y e => ?_⟩, ⟨ib, ic, h4, fun j y e => ?_⟩, h6⟩
  · obtain ⟨g, h7, h8⟩ := h3 j y e
    refine ⟨g, h7, (World.cell?_of_block (hb g (lt_cell h8) ?_)).trans h8⟩
    rintro rfl
    obtain ⟨z, hz⟩ : ∃ z, x.fi.parents[0]? = some z := ⟨_, List.getElem?_eq_getElem (by have := (List.getElem?_eq_some_iff.1 e).1; omega)⟩
    obtain ⟨g', h9, h10⟩ := h3 0 z hz
    rw [h7] at h9
    injection h9 with h9
    injection h9 with h9
    subst h9
    rw [h0] at h10
    injection h10 with h10
    injection h10 with h10
    exact hq z hz (by rw [← h10, ByteArray.toList_eq])
  · have h8 := h5 j y e
    refine (World.cell?_of_block (hb ib (lt_cell h8) ?_)).trans h8
    rintro rfl
    obtain ⟨z, hz⟩ : ∃ z, x.idx[0]? = some z := ⟨_, List.getElem?_eq_getElem (by have := (List.getElem?_eq_some_iff.1 e).1; omega)⟩
    have h9 := h5 0 z hz
    rw [h0] at h9
    cases h9
theorem rowsZ_of {V W : World} {base n : Nat} {v : Value} {vss : List (List Value)} {fs : List Fx} (hown : V.ownsRow base 60 5 v n (flat vss)) (hl : vss.length = n) (hn : fs.length = n) (hz : ∀ (i : Nat) (vs : List Value) (x : Fx), vss[i]? = some vs → fs[i]? = some x → ZzV W vs x)
    (hk : ∀ b, base ≤ b → b < V.heap.size → W.heap[b]? = V.heap[b]?) : ∃ A cap, v = .slice A n cap ∧ RowsZ W A fs := by
  have hl5 : ∀ ws ∈ vss, ws.length = 5 := by
    intro ws hw
    obtain ⟨i, hi, rfl⟩ := List.mem_iff_getElem.1 hw
    exact (hz i _ _ (List.getElem?_eq_getElem hi) (List.getElem?_eq_getElem (by omega : i < fs.length))).len
  rcases hown.2 with ⟨hv, hn0⟩ | ⟨g, cap, cur, hv, hb, hg, _, _, hcs, htk⟩
  · subst hn0
    refine ⟨none, 0, hv, fun i x e => ?_⟩
    have := (List.getElem?_eq_some_iff.1 e).1
    omega
  · refine ⟨some ⟨g, 0, none⟩, cap, hv, fun i x e => ?_⟩
    have hi : i < vss.length := by
      have := (List.getElem?_eq_some_iff.1 e).1
      omega
    have hvi : vss[i]? = some vss[i] := List.getElem?_eq_getElem hi
    refine ⟨g, vss[i], rfl, hz i _ x hvi e, fun k u hu => ?_⟩
    have hgl : g < V.heap.size := by
      rcases Nat.lt_or_ge g V.heap.size with h | h
      · exact h
      · rw [Array.getElem?_eq_none h] at hg; cases hg
    rw [World.cell?_of_block (hk g hb hgl)]
    have hf := flat_at vss i k _ u hl5 hvi hu
    rw [← htk, List.getElem?_take] at hf
    split at hf
    · simp only [World.cell?, hg]
      simpa using hf
    · cases hf
theorem zz_fin {tg : ByteArray → ByteArray} {ex : ByteArray → Bool} {l : AL Ty} {n0 : Nat} {am : Am} {n : Nat} {fs : List Fl} {y : Nat} {w w2 V W : World} {t : Ti} {u : Value} {vss : List (List Value)} {a0 a1 a2 a3 a4 : Value} {has : Bool}
    (hx : NX (fun k => Nm am k ∨ k = y) w w2) (hB : Below w2.heap.size w2 V) (h0 : w2.cell? ⟨w.heap.size, 0, none⟩ = some (.string ⟨#[]⟩)) (hown : V.ownsRow w2.heap.size 60 5 u t.fs.length (flat vss)) (hl : vss.length = t.fs.length)
    (hvs : ∀ (i : Nat) (vs : List Value) (x : Fx), vss[i]? = some vs → t.fs[i]? = some x → ZzV w2 vs x) (hq : TiAll HeadQ t) (hg : gti tg ex l n fs = .ok t) (hW : Ext (fun k => k = w.heap.size) V W) (hsh : ZzSh [a0, a1, a2, a3, a4]) (hxn : ∀ x, t.xn = some x → ZzV w2 [a0, a1, a2, a3, a4] x) (hh : has = t.xn.isSome) :
    ZzPost tg ex l n0 am n fs y w (.returned (.tuple #[u, .agg #[a0, a1, a2, a3, a4], .bool has, .nilIface])) W := by
  subst hh
  have hws : w.heap.size < w2.heap.size := lt_cell h0
  have hV0 : Ext (fun _ => False) w2 V := Ext.of_below hB
  have hV : Ext (fun k => k = w.heap.size) w2 V := hV0.mono fun _ _ e => e.elim
  have hxW := hV.trans hW
  have hkeep : ∀ b, b < w2.heap.size → b ≠ w.heap.size → W.heap[b]? = w2.heap[b]? := fun b hb hn => hxW.block b hb hn
  have hnx : NX (fun k => Nm am k ∨ k = y) w W :=
    ⟨⟨hxW.os.trans hx.ext.os, hxW.tape.trans hx.ext.tape, hxW.output.trans hx.ext.output, Nat.le_trans hx.ext.size hxW.size, fun k hk hn => (hkeep k (by omega) (by omega)).trans (hx.ext.block k hk hn)⟩,
      fun k i hs hk hi => (World.cell?_of_block (hkeep k (by omega) (by omega))).trans (hx.cell k i hs hk hi), fun k i hs hk => (World.frozen?_of_block (hkeep k (by omega) (by omega))).trans (hx.fz k i hs hk)⟩
  refine ⟨hnx, fun t' ht' => ?_, fun c hc => by rw [hg] at hc; cases hc⟩
  rw [hg] at ht'
  injection ht' with ht'
  subst ht'
  obtain ⟨A, cap, hu, hrows⟩ := rowsZ_of (W := W) hown hl rfl (fun i vs x e1 e2 => (hvs i vs x e1 e2).keepBox (hq.1 x (List.mem_of_getElem? e2)) h0 hkeep) (fun b hb hbl => hW.block b hbl (by omega))
  exact ⟨A, cap, #[a0, a1, a2, a3, a4], by rw [hu], hrows, hsh, fun x e => (hxn x e).keepBox (hq.2 x e) h0 hkeep⟩
/-- Five stores into one block, and a draw. -/
theorem ext5 {w : World} {x : Nat} (a0 a1 a2 a3 a4 : Value) : Ext (fun k => k = x) w (((((w.setCell ⟨x, 0, none⟩ a0).setCell ⟨x, 1, none⟩ a1).setCell ⟨x, 2, none⟩ a2).setCell ⟨x, 3, none⟩ a3).setCell ⟨x, 4, none⟩ a4).drew :=
  ((((Ext.setCell (S := fun k => k = x) w (a := ⟨x, 0, none⟩) rfl a0).trans (Ext.setCell (S := fun k => k = x) _ (a := ⟨x, 1, none⟩) rfl a1)).trans (Ext.setCell (S := fun k => k = x) _ (a := ⟨x, 2, none⟩) rfl a2)).trans ((Ext.setCell (S := fun k => k = x) _ (a := ⟨x, 3, none⟩) rfl a3).trans (Ext.setCell (S := fun k => k = x) _ (a := ⟨x, 4, none⟩) rfl a4))).drewN 1
theorem info60 : (Tryz.prog.info? 60).map (fun i => (i.zero, i.size, i.bytes)) = some (some (.agg #[.string ⟨#[]⟩, .string ⟨#[]⟩, .slice none 0 0, .int .i64 0, .slice none 0 0]), 5, 88) := by kernel_rfl
set_option maxHeartbeats 16000000 in
set_option maxRecDepth 100000 in
theorem zz_any {tg : ByteArray → ByteArray} {ex : ByteArray → Bool} {l : AL Ty} {n0 : Nat} {am : Am} {ok : Nat → Prop} (n : Nat) (fs : List Fl) (y c : Nat) (w : World) (hc : Cn l n fs c) (hcm : c ≤ 1000000) (hy : y < w.heap.size) (hN : ∀ b, Nm am b → b < w.heap.size) (hQ : ∀ t, gti tg ex l n fs = .ok t → TiAll HeadQ t)
    (hG : ∀ w', Below w.heap.size w w' → Calls Tryz.prog 26 #[.pointer (some ⟨y, 0, none⟩)] w' (GtiPost tg ex l n0 am ok n fs y w')) : Calls Tryz.prog 20 #[.pointer (some ⟨y, 0, none⟩)] w (ZzPost tg ex l n0 am n fs y w) := by
  have hcall := hG (w.alloc (.cells #[.string ⟨#[]⟩, .string ⟨#[]⟩, .slice none 0 0, .int .i64 0, .slice none 0 0] 60)) ((Below.refl _ _).alloc (Nat.le_refl _) _)
  have hcall := hcall.mono fun e w' h => (show ∃ p ev, e = .returned (.tuple #[.pointer p, ev]) ∧ GtiPost tg ex l n0 am ok n fs y (w.alloc (.cells #[.string ⟨#[]⟩, .string ⟨#[]⟩, .slice none 0 0, .int .i64 0, .slice none 0 0] 60)) e w' from by obtain ⟨p, ev, he⟩ := h.form; exact ⟨p, ev, he, h⟩)
  have HCALL := Lib.hid hcall
  have HN := Lib.hid hN
  have HC := Lib.hid hc
  have HQ := Lib.hid hQ
  clear hcall hN hG hc hQ
  go_enter Tryz.func20, Tryz.ntmps20
  go_wp2_with (go_at_call 26; refine HCALL.out.mono ?_; rintro e w2 ⟨p, ev, rfl, hpost⟩; refine Hid.out ?_)
  have hbx : ((w.alloc (.cells #[.string ⟨#[]⟩, .string ⟨#[]⟩, .slice none 0 0, .int .i64 0, .slice none 0 0] 60))).heap[w.heap.size]? = some (.cells #[.string ⟨#[]⟩, .string ⟨#[]⟩, .slice none 0 0, .int .i64 0, .slice none 0 0] 60) := heap_alloc_new w _
  have hx0 : NX (fun k => Nm am k ∨ k = y) w (w.alloc (.cells #[.string ⟨#[]⟩, .string ⟨#[]⟩, .slice none 0 0, .int .i64 0, .slice none 0 0] 60)) := NX.of_below ((Below.refl _ _).alloc (Nat.le_refl _) _)
  have hx2 := hx0.trans hpost.nx
  have hb2 : w2.heap[w.heap.size]? = some (.cells #[.string ⟨#[]⟩, .string ⟨#[]⟩, .slice none 0 0, .int .i64 0, .slice none 0 0] 60) := (hpost.nx.ext.block w.heap.size (by simp) (fun h => by
    rcases h with h | h
    · have := HN.out _ h
      omega
    · omega)).trans hbx
  have hws : w.heap.size < w2.heap.size := Nat.lt_of_lt_of_le (by simp) hpost.nx.ext.size
  have f0 : ∀ k, w2.frozen? ⟨w.heap.size, k, none⟩ = false := fun k => by simp only [World.frozen?, hb2]; simp
  have r0 : w2.cell? ⟨w.heap.size, 0, none⟩ = some (.string ⟨#[]⟩) := by simp only [World.cell?, hb2]; rfl
  have r1 : w2.cell? ⟨w.heap.size, 1, none⟩ = some (.string ⟨#[]⟩) := by simp only [World.cell?, hb2]; rfl
  have r2 : w2.cell? ⟨w.heap.size, 2, none⟩ = some (.slice none 0 0) := by simp only [World.cell?, hb2]; rfl
  have r3 : w2.cell? ⟨w.heap.size, 3, none⟩ = some (.int .i64 0) := by simp only [World.cell?, hb2]; rfl
  have r4 : w2.cell? ⟨w.heap.size, 4, none⟩ = some (.slice none 0 0) := by simp only [World.cell?, hb2]; rfl
  have HB2 := Lib.hid hb2
  have HX2 := Lib.hid hx2
  clear hbx hx0 hb2 hx2
  cases hg : gti tg ex l n fs with
  | error c2 =>
    obtain ⟨hnx, p2, ev2, he, hev⟩ := hpost.err c2 hg
    obtain ⟨h1, rfl⟩ := tuple_inj he
    obtain ⟨k, eb, rfl⟩ := hev.form
    have HNX := Lib.hid hnx
    have HEV := Lib.hid hev
    have HG := Lib.hid hg
    clear hpost hnx he h1 hev hg HCALL
    refine Lib.hid ?_
    go_wp2_with fail
    have hc := copied5 (a0 := .string ⟨#[]⟩) (a1 := .string ⟨#[]⟩) (a2 := .slice none 0 0) (a3 := .int .i64 0) (a4 := .slice none 0 0) HB2.out
    obtain ⟨W', hW'⟩ : ∃ W', W' = ((((w2.setCell ⟨w.heap.size, 0, none⟩ (.string ⟨#[]⟩)).setCell ⟨w.heap.size, 1, none⟩ (.string ⟨#[]⟩)).setCell ⟨w.heap.size, 2, none⟩ (.slice none 0 0)).setCell ⟨w.heap.size, 3, none⟩ (.int .i64 0)).setCell ⟨w.heap.size, 4, none⟩ (.slice none 0 0) := ⟨_, rfl⟩
    rw [← hW'] at hc ⊢
    have hsame : ∀ b, W'.heap[b]? = w2.heap[b]? := fun b => by
      by_cases hb : b = w.heap.size
      · rw [hb, hc.1, HB2.out]
      · exact hc.2 b hb
    have hos : Ext (fun _ => False) w2 W' := ⟨by rw [hW']; rfl, by rw [hW']; rfl, by rw [hW']; rfl, by rw [hW']; simp [World.setCell], fun b _ _ => hsame b⟩
    refine bodyPost_ret (v := .tuple #[.slice none 0 0, .agg #[.string ⟨#[]⟩, .string ⟨#[]⟩, .slice none 0 0, .int .i64 0, .slice none 0 0], .bool false, .iface k (.pointer (some ⟨eb, 0, none⟩))]) ?_ rfl ?_
    · simp [results, Tryz.results20, go_sem, World.cell?, hc.1]
    · refine ⟨HX2.out.trans (NX.of_ext hos), (fun t ht => by rw [HG.out] at ht; cases ht), fun c' hc' => ?_⟩
      rw [HG.out] at hc'
      injection hc' with hc'
      subst hc'
      exact ⟨((NX.of_below ((Below.refl _ _).alloc (Nat.le_refl _) _)).trans HNX.out).trans (NX.of_ext hos), _, _, rfl, ⟨_, _, _, _, _, _, _, _, _, rfl⟩, (HEV.out.mono (by simp)).same hsame hos.size⟩
  | ok t =>
    obtain ⟨ti, he, hI⟩ := hpost.res t hg
    obtain ⟨h1, rfl⟩ := tuple_inj he
    injection h1 with h1
    subst h1
    have hin := gti_ok HC.out hg
    obtain ⟨p', hp0, hpx⟩ := hI.c0
    obtain ⟨SA, SC, hi1, hrows⟩ := hI.c1
    have htl : t.fs.length ≤ 1000000 := by have := hin.1; omega
    have HG := Lib.hid hg
    have HPX := Lib.hid hpx
    have HRW := Lib.hid hrows
    have HF0 := Lib.hid f0
    clear hpost he hI hg hin hpx hrows HCALL f0
    refine Lib.hid ?_
    go_wp2_with fail
    go_loopg [2, 24] t.fs.length (fun gk s2 s24 wx => ∃ (j : Nat) (vss : List (List Value)), s24 = .int .i64 j ∧ j ≤ t.fs.length ∧ gk = t.fs.length - j ∧ Below w2.heap.size w2 wx ∧ wx.ownsRow w2.heap.size 60 5 s2 j (flat vss) ∧ vss.length = j ∧ ∀ (i : Nat) (vs : List Value) (x : Fx), vss[i]? = some vs → t.fs[i]? = some x → ZzV w2 vs x)
    case atStart => exact ⟨0, [], rfl, Nat.zero_le _, rfl, Below.refl _ _, World.ownsRow_nil _ _ _ _, rfl, fun i vs x e => by simp at e⟩
    case round =>
      obtain ⟨j, vss, rfl, hj, rfl, hb, hown, hvl, hvs⟩ := hrel
      obtain ⟨V, hV⟩ : ∃ V, V = wr := ⟨_, rfl⟩
      subst hV
      by_cases hlt : j < t.fs.length
      · obtain ⟨z, hz⟩ : ∃ z, t.fs[j]? = some z := ⟨_, List.getElem?_eq_getElem hlt⟩
        obtain ⟨g, rfl, _, hfa⟩ := HRW.out j z hz
        obtain ⟨ib, ic, PA, pc, ⟨q0', q1', q2', q3', q4'⟩, hzz⟩ := hfa.zz
        have hgl : g < w2.heap.size := lt_cell q0'
        have q0 := (World.cell?_of_block (hb.block g hgl)).trans q0'
        have q1 := (World.cell?_of_block (hb.block g hgl)).trans q1'
        have q2 := (World.cell?_of_block (hb.block g hgl)).trans q2'
        have q3 := (World.cell?_of_block (hb.block g hgl)).trans q3'
        have q4 := (World.cell?_of_block (hb.block g hgl)).trans q4'
        clear q0' q1' q2' q3' q4'
        have hj0 : (0 : Int) ≤ (j : Int) := by omega
        have hj1 : (j : Int) < (t.fs.length : Int) := by omega
        have hs2 : w2.heap.size ≤ V.heap.size := hb.size
        have HZ := Lib.hid hz
        have HZZ := Lib.hid hzz
        have HVS := Lib.hid hvs
        have HVL := Lib.hid hvl
        have HB := Lib.hid hb
        have hown2 := fun o o' => World.ownsRow.alloc (World.ownsRow.alloc hown o) o'
        have HOWN := Lib.hid hown2
        have HOWN0 := Lib.hid hown
        clear hz hfa hzz hvs hvl hb hown hown2
        obtain ⟨i0, hi, hz0, hz1, hz2⟩ := info_parts info60
        go_wp2_with (at_builtin; refine wpList_append_lies _ rfl (.tmp 28) (.tmp 40) 58 rfl w2.heap.size 60 i0 _ 5 88 Tryz.underlying58 hi hz0 hz1 hz2 rfl (by decide) u2 j (flat vss) rfl (HOWN.out _ _) ⟨V.heap.size + 1, 0, none⟩ 1 1 [.string z.fi.xmlns, .string z.fi.name, .slice PA z.fi.parents.length pc, .int .i64 z.fi.flags, .slice (some ⟨ib, 0, none⟩) z.idx.length ic] rfl rfl (World.news_of_block (by simpa using heap_alloc_new (V.alloc _) _)) (by simp [Value.oneCell']) (by decide) (by unfold maxLen; omega) (by omega) (by simp; omega) _ rfl ?_; intro g9 cap9 w9 hown9 hg9 hat hlt9; refine Hid.out ?_)
        have hb9 : Below w2.heap.size w2 w9 := by
          have hs9 := hg9.size
          simp at hs9
          refine HB.out.trans ⟨hg9.os, hg9.tape, hg9.output, by omega, fun k hk => ?_⟩
          exact (hg9.block k (by simp; omega) (fun e => by have := HOWN0.out.lt k e.symm; omega)).trans ((Below.heap_alloc _ _ k (by simp; omega)).trans (Below.heap_alloc V _ k (by omega)))
        have HB9 := Lib.hid hb9
        have HO9 := Lib.hid hown9
        clear hb9 hown9 hg9 hat HOWN
        refine Lib.hid ?_
        go_wp2_with fail
        go_roundg (t.fs.length - (j + 1))
        case measure => omega
        case rel =>
          refine ⟨j + 1, vss ++ [[.string z.fi.xmlns, .string z.fi.name, .slice PA z.fi.parents.length pc, .int .i64 z.fi.flags, .slice (some ⟨ib, 0, none⟩) z.idx.length ic]], by go_num, by omega, rfl, HB9.out, ?_, by simp [HVL.out], fun i vs x e1 e2 => ?_⟩
          · have := HO9.out
            simpa [flat] using this
          · rcases Nat.lt_or_ge i vss.length with h3 | h3
            · rw [List.getElem?_append_left h3] at e1
              exact HVS.out i vs x e1 e2
            · rw [List.getElem?_append_right h3] at e1
              have h4 : i - vss.length = 0 := by
                have := (List.getElem?_eq_some_iff.1 e1).1
                simp at this
                omega
              rw [h4] at e1
              simp at e1
              subst e1
              have h5 := HVL.out
              obtain rfl : i = j := by omega
              rw [HZ.out] at e2
              obtain rfl := Option.some.inj e2
              exact HZZ.out
      · have hje : j = t.fs.length := by omega
        subst hje
        have hs2 : w2.heap.size ≤ V.heap.size := hb.size
        have hbV : V.heap[w.heap.size]? = some (.cells #[.string ⟨#[]⟩, .string ⟨#[]⟩, .slice none 0 0, .int .i64 0, .slice none 0 0] 60) := (hb.block _ hws).trans HB2.out
        have v0 : V.cell? ⟨w.heap.size, 0, none⟩ = some (.string ⟨#[]⟩) := by simp only [World.cell?, hbV]; rfl
        have v1 : V.cell? ⟨w.heap.size, 1, none⟩ = some (.string ⟨#[]⟩) := by simp only [World.cell?, hbV]; rfl
        have v2 : V.cell? ⟨w.heap.size, 2, none⟩ = some (.slice none 0 0) := by simp only [World.cell?, hbV]; rfl
        have v3 : V.cell? ⟨w.heap.size, 3, none⟩ = some (.int .i64 0) := by simp only [World.cell?, hbV]; rfl
        have v4 : V.cell? ⟨w.heap.size, 4, none⟩ = some (.slice none 0 0) := by simp only [World.cell?, hbV]; rfl
        have vf : ∀ k, V.frozen? ⟨w.heap.size, k, none⟩ = false := fun k => by simp only [World.frozen?, hbV]; simp
        have p0 : V.cell? ⟨ti, 0, none⟩ = some (.pointer p') := (World.cell?_of_block (hb.block ti (lt_cell hp0))).trans hp0
        have HBV := Lib.hid hbV
        have HB := Lib.hid hb
        have HVS := Lib.hid hvs
        have HVL := Lib.hid hvl
        have HOWN := Lib.hid hown
        have HR0 := Lib.hid r0
        clear hbV hb hvs hvl hown hp0 hi1 r0 r1 r2 r3 r4
        cases hxn : t.xn with
        | none =>
          have hp : p' = none := by have := HPX.out; rw [hxn] at this; exact this
          subst hp
          have HXN := Lib.hid hxn
          clear hxn
          go_upto_region 12 with fail
          have hset := set5d (.string ⟨#[]⟩) (.string ⟨#[]⟩) (.slice none 0 0) (.int .i64 0) (.slice none 0 0) HBV.out
          have hvd : V.drew.cell? ⟨w.heap.size, 0, none⟩ = some (.string ⟨#[]⟩) ∧ V.drew.cell? ⟨w.heap.size, 1, none⟩ = some (.string ⟨#[]⟩) ∧ V.drew.cell? ⟨w.heap.size, 2, none⟩ = some (.slice none 0 0) ∧ V.drew.cell? ⟨w.heap.size, 3, none⟩ = some (.int .i64 0) ∧ V.drew.cell? ⟨w.heap.size, 4, none⟩ = some (.slice none 0 0) := ⟨v0, v1, v2, v3, v4⟩
          go_region_held3 (fun w' => w'.cell? ⟨w.heap.size, 0, none⟩ = some (.string ⟨#[]⟩) ∧ w'.cell? ⟨w.heap.size, 1, none⟩ = some (.string ⟨#[]⟩) ∧ w'.cell? ⟨w.heap.size, 2, none⟩ = some (.slice none 0 0) ∧ w'.cell? ⟨w.heap.size, 3, none⟩ = some (.int .i64 0) ∧ w'.cell? ⟨w.heap.size, 4, none⟩ = some (.slice none 0 0))
            (first | with_reducible exact hset | with_reducible exact hvd)
            (fail)
          all_goals
            go_wp2_with fail
            have hW := ext5 (w := V) (x := w.heap.size) (.string ⟨#[]⟩) (.string ⟨#[]⟩) (.slice none 0 0) (.int .i64 0) (.slice none 0 0)
            obtain ⟨W', hW'⟩ : ∃ W', W' = (((((V.setCell ⟨w.heap.size, 0, none⟩ (.string ⟨#[]⟩)).setCell ⟨w.heap.size, 1, none⟩ (.string ⟨#[]⟩)).setCell ⟨w.heap.size, 2, none⟩ (.slice none 0 0)).setCell ⟨w.heap.size, 3, none⟩ (.int .i64 0)).setCell ⟨w.heap.size, 4, none⟩ (.slice none 0 0)).drew := ⟨_, rfl⟩
            have hblk := (copied5 (a0 := .string ⟨#[]⟩) (a1 := .string ⟨#[]⟩) (a2 := .slice none 0 0) (a3 := .int .i64 0) (a4 := .slice none 0 0) HBV.out).1
            have hblk : W'.heap[w.heap.size]? = some (.cells #[.string ⟨#[]⟩, .string ⟨#[]⟩, .slice none 0 0, .int .i64 0, .slice none 0 0] 60) := by rw [hW']; exact hblk
            rw [← hW'] at hW ⊢
            refine bodyPost_ret (v := .tuple #[u2, .agg #[.string ⟨#[]⟩, .string ⟨#[]⟩, .slice none 0 0, .int .i64 0, .slice none 0 0], .bool false, .nilIface]) ?_ rfl ?_
            · simp [results, Tryz.results20, go_sem, World.cell?, hblk]
            · exact zz_fin HX2.out HB.out HR0.out HOWN.out HVL.out HVS.out (HQ.out t HG.out) HG.out hW ⟨_, _, _, _, _, _, _, _, _, rfl⟩ (fun x e => by rw [HXN.out] at e; cases e) (by rw [HXN.out]; rfl)
        | some x0 =>
          obtain ⟨fp, rfl, _, hfa⟩ : ∃ fp, p' = some ⟨fp, 0, none⟩ ∧ _ ∧ FxAt w2 fp 0 x0 := by have := HPX.out; rw [hxn] at this; exact this
          have hfl : fp < w2.heap.size := hfa.block
          obtain ⟨ib, ic, PA, pc, ⟨q0', q1', q2', q3', q4'⟩, hzz⟩ := hfa.zz
          have e0 : V.cell? ⟨fp, 0, none⟩ = some (.slice (some ⟨ib, 0, none⟩) x0.idx.length ic) := (World.cell?_of_block (HB.out.block fp hfl)).trans q0'
          have e1 : V.cell? ⟨fp, 1, none⟩ = some (.string x0.fi.name) := (World.cell?_of_block (HB.out.block fp hfl)).trans q1'
          have e2 : V.cell? ⟨fp, 2, none⟩ = some (.string x0.fi.xmlns) := (World.cell?_of_block (HB.out.block fp hfl)).trans q2'
          have e3 : V.cell? ⟨fp, 3, none⟩ = some (.int .i64 x0.fi.flags) := (World.cell?_of_block (HB.out.block fp hfl)).trans q3'
          have e4 : V.cell? ⟨fp, 4, none⟩ = some (.slice PA x0.fi.parents.length pc) := (World.cell?_of_block (HB.out.block fp hfl)).trans q4'
          have HXN := Lib.hid hxn
          have HZZ := Lib.hid hzz
          clear hxn hzz hfa q0' q1' q2' q3' q4' HPX
          go_upto_region 11 with fail
          have d0 : V.drew.cell? ⟨fp, 0, none⟩ = some (.slice (some ⟨ib, 0, none⟩) x0.idx.length ic) := e0
          have d1 : V.drew.cell? ⟨fp, 1, none⟩ = some (.string x0.fi.name) := e1
          have d2 : V.drew.cell? ⟨fp, 2, none⟩ = some (.string x0.fi.xmlns) := e2
          have d3 : V.drew.cell? ⟨fp, 3, none⟩ = some (.int .i64 x0.fi.flags) := e3
          have d4 : V.drew.cell? ⟨fp, 4, none⟩ = some (.slice PA x0.fi.parents.length pc) := e4
          go_still_tail 21, (by kernel_rfl)
          change wpList _ _ _ _ _ V.drew
          go_wp2_with fail
          have hblk1 := (copied5 (a0 := .string x0.fi.xmlns) (a1 := .string x0.fi.name) (a2 := .slice PA x0.fi.parents.length pc) (a3 := .int .i64 x0.fi.flags) (a4 := .slice (some ⟨ib, 0, none⟩) x0.idx.length ic) HBV.out).1
          have hW1 := ext5 (w := V) (x := w.heap.size) (.string x0.fi.xmlns) (.string x0.fi.name) (.slice PA x0.fi.parents.length pc) (.int .i64 x0.fi.flags) (.slice (some ⟨ib, 0, none⟩) x0.idx.length ic)
          obtain ⟨U, hU⟩ : ∃ U, U = (((((V.setCell ⟨w.heap.size, 0, none⟩ (.string x0.fi.xmlns)).setCell ⟨w.heap.size, 1, none⟩ (.string x0.fi.name)).setCell ⟨w.heap.size, 2, none⟩ (.slice PA x0.fi.parents.length pc)).setCell ⟨w.heap.size, 3, none⟩ (.int .i64 x0.fi.flags)).setCell ⟨w.heap.size, 4, none⟩ (.slice (some ⟨ib, 0, none⟩) x0.idx.length ic)).drew := ⟨_, rfl⟩
          have hblk1 : U.heap[w.heap.size]? = some (.cells #[.string x0.fi.xmlns, .string x0.fi.name, .slice PA x0.fi.parents.length pc, .int .i64 x0.fi.flags, .slice (some ⟨ib, 0, none⟩) x0.idx.length ic] 60) := by rw [hU]; exact hblk1
          rw [← hU] at hW1 ⊢
          have hset := set5d (.string x0.fi.xmlns) (.string x0.fi.name) (.slice PA x0.fi.parents.length pc) (.int .i64 x0.fi.flags) (.slice (some ⟨ib, 0, none⟩) x0.idx.length ic) hblk1
          have hb1d : U.drew.heap[w.heap.size]? = some (.cells #[.string x0.fi.xmlns, .string x0.fi.name, .slice PA x0.fi.parents.length pc, .int .i64 x0.fi.flags, .slice (some ⟨ib, 0, none⟩) x0.idx.length ic] 60) := hblk1
          have hvd : U.drew.cell? ⟨w.heap.size, 0, none⟩ = some (.string x0.fi.xmlns) ∧ U.drew.cell? ⟨w.heap.size, 1, none⟩ = some (.string x0.fi.name) ∧ U.drew.cell? ⟨w.heap.size, 2, none⟩ = some (.slice PA x0.fi.parents.length pc) ∧ U.drew.cell? ⟨w.heap.size, 3, none⟩ = some (.int .i64 x0.fi.flags) ∧ U.drew.cell? ⟨w.heap.size, 4, none⟩ = some (.slice (some ⟨ib, 0, none⟩) x0.idx.length ic) := by
            refine ⟨?_, ?_, ?_, ?_, ?_⟩ <;> (simp only [World.cell?, hb1d]; rfl)
          have uf : ∀ k, U.frozen? ⟨w.heap.size, k, none⟩ = false := fun k => by simp only [World.frozen?, hblk1]; simp
          have u0 : U.cell? ⟨w.heap.size, 0, none⟩ = some (.string x0.fi.xmlns) := by simp only [World.cell?, hblk1]; rfl
          have u1 : U.cell? ⟨w.heap.size, 1, none⟩ = some (.string x0.fi.name) := by simp only [World.cell?, hblk1]; rfl
          have u2_ : U.cell? ⟨w.heap.size, 2, none⟩ = some (.slice PA x0.fi.parents.length pc) := by simp only [World.cell?, hblk1]; rfl
          have u3 : U.cell? ⟨w.heap.size, 3, none⟩ = some (.int .i64 x0.fi.flags) := by simp only [World.cell?, hblk1]; rfl
          have u4 : U.cell? ⟨w.heap.size, 4, none⟩ = some (.slice (some ⟨ib, 0, none⟩) x0.idx.length ic) := by simp only [World.cell?, hblk1]; rfl
          have HB1 := Lib.hid hblk1
          have HW1 := Lib.hid hW1
          clear hblk1 hW1 hb1d hU v0 v1 v2 v3 v4 vf d0 d1 d2 d3 d4 e0 e1 e2 e3 e4
          go_region_held3 (fun w' => w'.cell? ⟨w.heap.size, 0, none⟩ = some (.string x0.fi.xmlns) ∧ w'.cell? ⟨w.heap.size, 1, none⟩ = some (.string x0.fi.name) ∧ w'.cell? ⟨w.heap.size, 2, none⟩ = some (.slice PA x0.fi.parents.length pc) ∧ w'.cell? ⟨w.heap.size, 3, none⟩ = some (.int .i64 x0.fi.flags) ∧ w'.cell? ⟨w.heap.size, 4, none⟩ = some (.slice (some ⟨ib, 0, none⟩) x0.idx.length ic))
            (first | with_reducible exact hset | with_reducible exact hvd)
            (fail)
          all_goals
            go_wp2_with fail
            have hW2 := ext5 (w := U) (x := w.heap.size) (.string x0.fi.xmlns) (.string x0.fi.name) (.slice PA x0.fi.parents.length pc) (.int .i64 x0.fi.flags) (.slice (some ⟨ib, 0, none⟩) x0.idx.length ic)
            have hblk := (copied5 (a0 := .string x0.fi.xmlns) (a1 := .string x0.fi.name) (a2 := .slice PA x0.fi.parents.length pc) (a3 := .int .i64 x0.fi.flags) (a4 := .slice (some ⟨ib, 0, none⟩) x0.idx.length ic) HB1.out).1
            obtain ⟨W', hW'⟩ : ∃ W', W' = (((((U.setCell ⟨w.heap.size, 0, none⟩ (.string x0.fi.xmlns)).setCell ⟨w.heap.size, 1, none⟩ (.string x0.fi.name)).setCell ⟨w.heap.size, 2, none⟩ (.slice PA x0.fi.parents.length pc)).setCell ⟨w.heap.size, 3, none⟩ (.int .i64 x0.fi.flags)).setCell ⟨w.heap.size, 4, none⟩ (.slice (some ⟨ib, 0, none⟩) x0.idx.length ic)).drew := ⟨_, rfl⟩
            have hblk : W'.heap[w.heap.size]? = some (.cells #[.string x0.fi.xmlns, .string x0.fi.name, .slice PA x0.fi.parents.length pc, .int .i64 x0.fi.flags, .slice (some ⟨ib, 0, none⟩) x0.idx.length ic] 60) := by rw [hW']; exact hblk
            rw [← hW'] at hW2 ⊢
            refine bodyPost_ret (v := .tuple #[u2, .agg #[.string x0.fi.xmlns, .string x0.fi.name, .slice PA x0.fi.parents.length pc, .int .i64 x0.fi.flags, .slice (some ⟨ib, 0, none⟩) x0.idx.length ic], .bool true, .nilIface]) ?_ rfl ?_
            · simp [results, Tryz.results20, go_sem, World.cell?, hblk]
            · exact zz_fin HX2.out HB.out HR0.out HOWN.out HVL.out HVS.out (HQ.out t HG.out) HG.out (HW1.out.trans hW2) ⟨_, _, _, _, _, _, _, _, _, rfl⟩ (fun x e => by rw [HXN.out] at e; obtain rfl := Option.some.inj e; exact HZZ.out) (by rw [HXN.out]; rfl)
end Go.Proofs.YtnmgocbmofbppaaGreatDoor
