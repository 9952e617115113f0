/- freshType: a copy of a type. -/
import Derived.Test.YtnmgocbmofbppaaGreatDoorA23
import Derived.Deep.RegionHeldLaw
import Derived.Deep.RegionHeld3

set_option linter.unusedVariables false
set_option linter.unusedSimpArgs false

namespace Go.Proofs.YtnmgocbmofbppaaGreatDoor
open Go.RowKit

theorem q_flat_atk (n : Nat) : ∀ (vss : List (List Value)) (i k : Nat) (vs : List Value) (u : Value), (∀ ws ∈ vss, ws.length = n) → vss[i]? = some vs → vs[k]? = some u → (flat vss)[i * n + k]? = some u
  | [], _, _, _, _, _, h, _ => by simp at h
  | ws :: vss, 0, k, vs, u, hl, h, hk => by
    simp at h
    subst h
    have hk' : k < ws.length := (List.getElem?_eq_some_iff.1 hk).1
    simp only [flat, List.flatten_cons, Nat.zero_mul, Nat.zero_add]
    rw [List.getElem?_append_left hk']
    exact hk
  | ws :: vss, i + 1, k, vs, u, hl, h, hk => by
    have hw : ws.length = n := hl ws (by simp)
    have ih := q_flat_atk n vss i k vs u (fun x hx => hl x (by simp [hx])) (by simpa using h) hk
    simp only [flat, List.flatten_cons]
    rw [List.getElem?_append_right (by rw [Nat.succ_mul]; omega), hw, show (i + 1) * n + k - n = i * n + k by rw [Nat.succ_mul]; omega]
    exact ih
/-- The copy under way: the box, the result, the copy itself; its two rows. -/
structure FrSt (w wx : World) (b0 b1 b2 b3 b4 : Value) (of : List Ty) (fs : List Fl) (a0 a1 a2 v u : Value) (css dss : List (List Value)) : Prop where
  below : Below w.heap.size w wx
  size : w.heap.size + 3 ≤ wx.heap.size
  bx : wx.heap[w.heap.size]? = some (.cells #[b0, b1, b2, b3, b4] 26)
  res : wx.heap[w.heap.size + 1]? = some (.cells #[.int .i64 0, .int .i64 0, .string ⟨#[]⟩, .slice none 0 0, .slice none 0 0] 26)
  out : wx.heap[w.heap.size + 1 + 1]? = some (.cells #[a0, a1, a2, v, u] 26)
  own1 : wx.ownsRow (w.heap.size + 3) 26 5 v css.length (flat css)
  own2 : wx.ownsRow (w.heap.size + 3) 32 8 u dss.length (flat dss)
  apart : ∀ g, v.ownBlock = some g → u.ownBlock ≠ some g
  el1 : ∀ (i : Nat) (cs : List Value) (t : Ty), css[i]? = some cs → of[i]? = some t → TyV wx (fun b => w.heap.size + 3 ≤ b ∧ b < wx.heap.size ∧ v.ownBlock ≠ some b ∧ u.ownBlock ≠ some b) t cs
  el2 : ∀ (i : Nat) (cs : List Value) (f : Fl), dss[i]? = some cs → fs[i]? = some f → FlV wx (fun b => w.heap.size + 3 ≤ b ∧ b < wx.heap.size ∧ v.ownBlock ≠ some b ∧ u.ownBlock ≠ some b) f cs
  l1 : css.length ≤ of.length
  l2 : dss.length ≤ fs.length
section
variable {w V w5 w9 w10 : World} {b0 b1 b2 b3 b4 : Value} {of : List Ty} {fs : List Fl} {a0 a1 a2 v u : Value} {css dss : List (List Value)}
theorem q_ownR_lt {base e k n : Nat} {v : Value} {xs : List Value} {w : World} (h : w.ownsRow base e k v n xs) {g : Nat} (hg : v.ownBlock = some g) : base ≤ g ∧ g < w.heap.size := h.lt g hg
theorem q_set26 {w : World} {x i : Nat} {c : Array Value} {y : Value} {t : TypeId} (h : w.heap[x]? = some (.cells c t)) : (w.setCell ⟨x, i, none⟩ y).heap[x]? = some (.cells (c.setIfInBounds i y) t) := heap_set_here h
theorem q_far {w5 w9 : World} {o : Obj} {v : Value} {B : Nat} (hv : ∀ g, v.ownBlock = some g → B ≤ g) (hg : (w5.alloc o).grownBy w9 v.ownBlock) : ∀ b, b < w5.heap.size → b < B → w9.heap[b]? = w5.heap[b]? := fun b h1 h2 =>
  (hg.block b (by simp; omega) (fun e => by have := hv b e.symm; omega)).trans (Below.heap_alloc w5 o b h1)
/-- One type more. -/
theorem FrSt.pushT {g cap : Nat} {o : Obj} {t : Ty} {cs : List Value} (h : FrSt w V b0 b1 b2 b3 b4 of fs a0 a1 a2 v u css dss) (hb5 : Below V.heap.size V w5) (ht : TyV w5 (fun b => V.heap.size ≤ b ∧ b < w5.heap.size) t cs) (hti : of[css.length]? = some t)
    (h9 : w9.ownsRow (w.heap.size + 3) 26 5 (.slice (some ⟨g, 0, none⟩) (css.length + 1) cap) (css.length + 1) (flat css ++ cs)) (hg9 : (w5.alloc o).grownBy w9 v.ownBlock) (hat : v.ownBlock = some g ∨ g = (w5.alloc o).heap.size)
    (h10 : w10 = w9.setCell ⟨w.heap.size + 1 + 1, 3, none⟩ (.slice (some ⟨g, 0, none⟩) (css.length + 1) cap)) :
    FrSt w w10 b0 b1 b2 b3 b4 of fs a0 a1 a2 (.slice (some ⟨g, 0, none⟩) (css.length + 1) cap) u (css ++ [cs]) dss := by
  have hs := h.size
  have s5 := hb5.size
  have s9 := hg9.size
  simp only [World.size_alloc] at s9
  have s10 : w10.heap.size = w9.heap.size := by rw [h10]; simp [World.setCell]
  have hvl : ∀ k, v.ownBlock = some k → w.heap.size + 3 ≤ k ∧ k < V.heap.size := fun k e => h.own1.lt k e
  have hul : ∀ k, u.ownBlock = some k → w.heap.size + 3 ≤ k ∧ k < V.heap.size := fun k e => h.own2.lt k e
  have k9 : ∀ b, b < V.heap.size → v.ownBlock ≠ some b → w9.heap[b]? = V.heap[b]? := fun b hb hn =>
    (hg9.block b (by simp; omega) (fun e => hn e.symm)).trans ((Below.heap_alloc w5 o b (by omega)).trans (hb5.block b hb))
  have k95 : ∀ b, b < w5.heap.size → v.ownBlock ≠ some b → w9.heap[b]? = w5.heap[b]? := fun b hb hn => (hg9.block b (by simp; omega) (fun e => hn e.symm)).trans (Below.heap_alloc w5 o b hb)
  have k10 : ∀ b, b ≠ w.heap.size + 1 + 1 → w10.heap[b]? = w9.heap[b]? := fun b hb => by rw [h10]; exact Below.heap_setCell _ _ _ b hb
  have hgo : (Value.slice (some ⟨g, 0, none⟩) (css.length + 1) cap).ownBlock = some g := rfl
  have hgn : ∀ b, b < V.heap.size → v.ownBlock ≠ some b → g ≠ b := fun b hb hn => by
    rcases hat with e | e
    · exact fun e2 => hn (by rw [e, e2])
    · simp at e; omega
  have hvO : ∀ b, b < w.heap.size + 3 → v.ownBlock ≠ some b := fun b hb e => by have := (hvl b e).1; omega
  have hbel : Below w.heap.size w w10 := by
    refine ⟨?_, ?_, ?_, by omega, fun b hb => ?_⟩
    · rw [h10]; exact hg9.os.trans (hb5.os.trans h.below.os)
    · rw [h10]; exact hg9.tape.trans (hb5.tape.trans h.below.tape)
    · rw [h10]; exact hg9.output.trans (hb5.output.trans h.below.output)
    · exact (k10 b (by omega)).trans ((k9 b (by omega) (hvO b (by omega))).trans (h.below.block b hb))
  have hO9 := (k9 (w.heap.size + 1 + 1) (by omega) (hvO _ (by omega))).trans h.out
  refine ⟨hbel, by omega, ?_, ?_, ?_, ?_, ?_, fun k e1 e2 => ?_, fun i cs' t' e1 e2 => ?_, fun i cs' f e1 e2 => ?_, ?_, h.l2⟩
  · exact (k10 _ (by omega)).trans ((k9 _ (by omega) (hvO _ (by omega))).trans h.bx)
  · exact (k10 _ (by omega)).trans ((k9 _ (by omega) (hvO _ (by omega))).trans h.res)
  · rw [h10]
    refine (q_set26 hO9).trans ?_
    simp
  · have hg3 := (h9.lt g rfl).1
    have := ownG_kept h9 (w' := w10) fun k e => k10 k (by have e : g = k := (by simpa [Value.ownBlock] using e); omega)
    simpa [flat] using this
  · exact ownG_kept h.own2 fun k e => by
      have hk := hul k e
      exact (k10 k (by omega)).trans (k9 k hk.2 (fun e3 => h.apart k e3 e))
  · have e1 : g = k := by simpa [Value.ownBlock] using e1
    subst e1
    have hk := hul g e2
    exact hgn g hk.2 (fun e3 => h.apart g e3 e2) rfl
  · rcases Nat.lt_or_ge i css.length with hi | hi
    · rw [List.getElem?_append_left hi] at e1
      refine TyV.keep (fun b ⟨q1, q2, q3, q4⟩ => ⟨⟨q1, by omega, fun e => ?_, q4⟩, (k10 b (by omega)).trans (k9 b q2 q3)⟩) _ _ (h.el1 i cs' t' e1 e2)
      have e : g = b := by simpa [Value.ownBlock] using e
      exact hgn b q2 q3 e
    · rw [List.getElem?_append_right hi] at e1
      have h4 : i - css.length = 0 := by
        have := (List.getElem?_eq_some_iff.1 e1).1
        simp at this
        omega
      rw [h4] at e1
      simp at e1
      subst e1
      obtain rfl : i = css.length := by omega
      rw [hti] at e2
      obtain rfl := Option.some.inj e2
      refine TyV.keep (fun b ⟨q1, q2⟩ => ⟨⟨by omega, by omega, fun e => ?_, fun e => by have := (hul b e).2; omega⟩, (k10 b (by omega)).trans (k95 b q2 (fun e => by have := (hvl b e).2; omega))⟩) _ _ ht
      have e : g = b := by simpa [Value.ownBlock] using e
      rcases hat with e3 | e3
      · have := (hvl g e3).2; omega
      · simp at e3; omega
  · refine FlV.keep (fun b ⟨q1, q2, q3, q4⟩ => ⟨⟨q1, by omega, fun e => ?_, q4⟩, (k10 b (by omega)).trans (k9 b q2 q3)⟩) _ _ (h.el2 i cs' f e1 e2)
    have e : g = b := by simpa [Value.ownBlock] using e
    exact hgn b q2 q3 e
  · have := (List.getElem?_eq_some_iff.1 hti).1
    simp
    omega
/-- One field more. -/
theorem FrSt.pushF {g cap : Nat} {o : Obj} {t : Fl} {cs : List Value} (h : FrSt w V b0 b1 b2 b3 b4 of fs a0 a1 a2 v u css dss) (hb5 : Below V.heap.size V w5) (ht : FlV w5 (fun b => V.heap.size ≤ b ∧ b < w5.heap.size) t cs) (hti : fs[dss.length]? = some t)
    (h9 : w9.ownsRow (w.heap.size + 3) 32 8 (.slice (some ⟨g, 0, none⟩) (dss.length + 1) cap) (dss.length + 1) (flat dss ++ cs)) (hg9 : (w5.alloc o).grownBy w9 u.ownBlock) (hat : u.ownBlock = some g ∨ g = (w5.alloc o).heap.size)
    (h10 : w10 = w9.setCell ⟨w.heap.size + 1 + 1, 4, none⟩ (.slice (some ⟨g, 0, none⟩) (dss.length + 1) cap)) :
    FrSt w w10 b0 b1 b2 b3 b4 of fs a0 a1 a2 v (.slice (some ⟨g, 0, none⟩) (dss.length + 1) cap) css (dss ++ [cs]) := by
  have hs := h.size
  have s5 := hb5.size
  have s9 := hg9.size
  simp only [World.size_alloc] at s9
  have s10 : w10.heap.size = w9.heap.size := by rw [h10]; simp [World.setCell]
  have hvl : ∀ k, v.ownBlock = some k → w.heap.size + 3 ≤ k ∧ k < V.heap.size := fun k e => h.own1.lt k e
  have hul : ∀ k, u.ownBlock = some k → w.heap.size + 3 ≤ k ∧ k < V.heap.size := fun k e => h.own2.lt k e
  have k9 : ∀ b, b < V.heap.size → u.ownBlock ≠ some b → w9.heap[b]? = V.heap[b]? := fun b hb hn =>
    (hg9.block b (by simp; omega) (fun e => hn e.symm)).trans ((Below.heap_alloc w5 o b (by omega)).trans (hb5.block b hb))
  have k95 : ∀ b, b < w5.heap.size → u.ownBlock ≠ some b → w9.heap[b]? = w5.heap[b]? := fun b hb hn => (hg9.block b (by simp; omega) (fun e => hn e.symm)).trans (Below.heap_alloc w5 o b hb)
  have k10 : ∀ b, b ≠ w.heap.size + 1 + 1 → w10.heap[b]? = w9.heap[b]? := fun b hb => by rw [h10]; exact Below.heap_setCell _ _ _ b hb
  have hgo : (Value.slice (some ⟨g, 0, none⟩) (dss.length + 1) cap).ownBlock = some g := rfl
  have hgn : ∀ b, b < V.heap.size → u.ownBlock ≠ some b → g ≠ b := fun b hb hn => by
    rcases hat with e | e
    · exact fun e2 => hn (by rw [e, e2])
    · simp at e; omega
  have hvO : ∀ b, b < w.heap.size + 3 → u.ownBlock ≠ some b := fun b hb e => by have := (hul b e).1; omega
  have hbel : Below w.heap.size w w10 := by
    refine ⟨?_, ?_, ?_, by omega, fun b hb => ?_⟩
    · rw [h10]; exact hg9.os.trans (hb5.os.trans h.below.os)
    · rw [h10]; exact hg9.tape.trans (hb5.tape.trans h.below.tape)
    · rw [h10]; exact hg9.output.trans (hb5.output.trans h.below.output)
    · exact (k10 b (by omega)).trans ((k9 b (by omega) (hvO b (by omega))).trans (h.below.block b hb))
  have hO9 := (k9 (w.heap.size + 1 + 1) (by omega) (hvO _ (by omega))).trans h.out
  refine ⟨hbel, by omega, ?_, ?_, ?_, ?_, ?_, fun k e1 e2 => ?_, fun i cs' t' e1 e2 => ?_, fun i cs' f e1 e2 => ?_, h.l1, ?_⟩
  · exact (k10 _ (by omega)).trans ((k9 _ (by omega) (hvO _ (by omega))).trans h.bx)
  · exact (k10 _ (by omega)).trans ((k9 _ (by omega) (hvO _ (by omega))).trans h.res)
  · rw [h10]
    refine (q_set26 hO9).trans ?_
    simp
  · exact ownG_kept h.own1 fun k e => by
      have hk := hvl k e
      exact (k10 k (by omega)).trans (k9 k hk.2 (fun e3 => h.apart k e e3))
  · have hg3 := (h9.lt g rfl).1
    have := ownG_kept h9 (w' := w10) fun k e => k10 k (by have e : g = k := (by simpa [Value.ownBlock] using e); omega)
    simpa [flat] using this
  · have e2 : g = k := by simpa [Value.ownBlock] using e2
    subst e2
    have hk := hvl g e1
    exact hgn g hk.2 (fun e3 => h.apart g e1 e3) rfl
  · refine TyV.keep (fun b ⟨q1, q2, q3, q4⟩ => ⟨⟨q1, by omega, q3, fun e => ?_⟩, (k10 b (by omega)).trans (k9 b q2 q4)⟩) _ _ (h.el1 i cs' t' e1 e2)
    have e : g = b := by simpa [Value.ownBlock] using e
    exact hgn b q2 q4 e
  · rcases Nat.lt_or_ge i dss.length with hi | hi
    · rw [List.getElem?_append_left hi] at e1
      refine FlV.keep (fun b ⟨q1, q2, q3, q4⟩ => ⟨⟨q1, by omega, q3, fun e => ?_⟩, (k10 b (by omega)).trans (k9 b q2 q4)⟩) _ _ (h.el2 i cs' f e1 e2)
      have e : g = b := by simpa [Value.ownBlock] using e
      exact hgn b q2 q4 e
    · rw [List.getElem?_append_right hi] at e1
      have h4 : i - dss.length = 0 := by
        have := (List.getElem?_eq_some_iff.1 e1).1
        simp at this
        omega
      rw [h4] at e1
      simp at e1
      subst e1
      obtain rfl : i = dss.length := by omega
      rw [hti] at e2
      obtain rfl := Option.some.inj e2
      refine FlV.keep (fun b ⟨q1, q2⟩ => ⟨⟨by omega, by omega, fun e => by have := (hvl b e).2; omega, fun e => ?_⟩, (k10 b (by omega)).trans (k95 b q2 (fun e => by have := (hul b e).2; omega))⟩) _ _ ht
      have e : g = b := by simpa [Value.ownBlock] using e
      rcases hat with e3 | e3
      · have := (hul g e3).2; omega
      · simp at e3; omega
  · have := (List.getElem?_eq_some_iff.1 hti).1
    simp
    omega
end
theorem q_szs_len : ∀ ts : List Ty, ts.length ≤ szs ts
  | [] => Nat.zero_le _
  | t :: ts => by
    have h1 := q_szs_len ts
    have h2 := t.sz_pos
    simp only [szs, List.length_cons]
    omega
theorem q_alloc_at {w : World} {n : Nat} (h : w.heap.size = n) (o : Obj) : (w.alloc o).heap[n]? = some o := by
  subst h
  exact heap_alloc_new w o
theorem q_cells5 {w : World} {x : Nat} {a0 a1 a2 a3 a4 : Value} {t : TypeId} (h : w.heap[x]? = some (.cells #[a0, a1, a2, a3, a4] t)) :
    w.cell? ⟨x, 0, none⟩ = some a0 ∧ w.cell? ⟨x, 1, none⟩ = some a1 ∧ w.cell? ⟨x, 2, none⟩ = some a2 ∧ w.cell? ⟨x, 3, none⟩ = some a3 ∧ w.cell? ⟨x, 4, none⟩ = some a4 ∧ ∀ j, w.frozen? ⟨x, j, none⟩ = false := by
  refine ⟨?_, ?_, ?_, ?_, ?_, fun j => ?_⟩
  · simp only [World.cell?, h]; rfl
  · simp only [World.cell?, h]; rfl
  · simp only [World.cell?, h]; rfl
  · simp only [World.cell?, h]; rfl
  · simp only [World.cell?, h]; rfl
  · simp only [World.frozen?, h]; simp
theorem q_cells8 {w : World} {x : Nat} {a0 a1 a2 a3 a4 a5 a6 a7 : Value} {t : TypeId} (h : w.heap[x]? = some (.cells #[a0, a1, a2, a3, a4, a5, a6, a7] t)) :
    w.cell? ⟨x, 0, none⟩ = some a0 ∧ w.cell? ⟨x, 1, none⟩ = some a1 ∧ w.cell? ⟨x, 2, none⟩ = some a2 ∧ w.cell? ⟨x, 3, none⟩ = some a3 ∧ w.cell? ⟨x, 4, none⟩ = some a4 ∧ w.cell? ⟨x, 5, none⟩ = some a5 ∧ w.cell? ⟨x, 6, none⟩ = some a6 ∧ w.cell? ⟨x, 7, none⟩ = some a7 ∧ ∀ j, w.frozen? ⟨x, j, none⟩ = false := by
  refine ⟨?_, ?_, ?_, ?_, ?_, ?_, ?_, ?_, fun j => ?_⟩
  · simp only [World.cell?, h]; rfl
  · simp only [World.cell?, h]; rfl
  · simp only [World.cell?, h]; rfl
  · simp only [World.cell?, h]; rfl
  · simp only [World.cell?, h]; rfl
  · simp only [World.cell?, h]; rfl
  · simp only [World.cell?, h]; rfl
  · simp only [World.cell?, h]; rfl
  · simp only [World.frozen?, h]; simp
/-- Five stores behind the first three cells. -/
abbrev q_put (w : World) (x : Nat) (a3 a4 a5 a6 a7 : Value) : World := (((((w.setCell ⟨x, 3, none⟩ a3).setCell ⟨x, 4, none⟩ a4).setCell ⟨x, 5, none⟩ a5).setCell ⟨x, 6, none⟩ a6).setCell ⟨x, 7, none⟩ a7)
theorem q_put_at {w : World} {x : Nat} {a0 a1 a2 o3 o4 o5 o6 o7 : Value} {t : TypeId} (a3 a4 a5 a6 a7 : Value) (h : w.heap[x]? = some (.cells #[a0, a1, a2, o3, o4, o5, o6, o7] t)) :
    (q_put w x a3 a4 a5 a6 a7).heap[x]? = some (.cells #[a0, a1, a2, a3, a4, a5, a6, a7] t) ∧ Ext (fun k => k = x) w (q_put w x a3 a4 a5 a6 a7) := by
  refine ⟨?_, ?_⟩
  · refine (heap_set_here (heap_set_here (heap_set_here (heap_set_here (heap_set_here h))))).trans ?_
    simp
  · exact ((((Ext.setCell (S := fun k => k = x) w (a := ⟨x, 3, none⟩) rfl a3).trans (Ext.setCell (S := fun k => k = x) _ (a := ⟨x, 4, none⟩) rfl a4)).trans (Ext.setCell (S := fun k => k = x) _ (a := ⟨x, 5, none⟩) rfl a5)).trans (Ext.setCell (S := fun k => k = x) _ (a := ⟨x, 6, none⟩) rfl a6)).trans (Ext.setCell (S := fun k => k = x) _ (a := ⟨x, 7, none⟩) rfl a7)
theorem q_put5_at {w : World} {x : Nat} {o0 o1 o2 o3 o4 : Value} {t : TypeId} (a0 a1 a2 a3 a4 : Value) (h : w.heap[x]? = some (.cells #[o0, o1, o2, o3, o4] t)) :
    (((((w.setCell ⟨x, 0, none⟩ a0).setCell ⟨x, 1, none⟩ a1).setCell ⟨x, 2, none⟩ a2).setCell ⟨x, 3, none⟩ a3).setCell ⟨x, 4, none⟩ a4).heap[x]? = some (.cells #[a0, a1, a2, a3, a4] t) ∧ Ext (fun k => k = x) w (((((w.setCell ⟨x, 0, none⟩ a0).setCell ⟨x, 1, none⟩ a1).setCell ⟨x, 2, none⟩ a2).setCell ⟨x, 3, none⟩ a3).setCell ⟨x, 4, none⟩ a4) := by
  refine ⟨?_, ?_⟩
  · refine (heap_set_here (heap_set_here (heap_set_here (heap_set_here (heap_set_here h))))).trans ?_
    simp
  · exact ((((Ext.setCell (S := fun k => k = x) w (a := ⟨x, 0, none⟩) rfl a0).trans (Ext.setCell (S := fun k => k = x) _ (a := ⟨x, 1, none⟩) rfl a1)).trans (Ext.setCell (S := fun k => k = x) _ (a := ⟨x, 2, none⟩) rfl a2)).trans (Ext.setCell (S := fun k => k = x) _ (a := ⟨x, 3, none⟩) rfl a3)).trans (Ext.setCell (S := fun k => k = x) _ (a := ⟨x, 4, none⟩) rfl a4)
theorem q_info26 : (Tryz.prog.info? 26).map (fun i => (i.zero, i.size, i.bytes)) = some (some (.agg #[.int .i64 0, .int .i64 0, .string ⟨#[]⟩, .slice none 0 0, .slice none 0 0]), 5, 80) := by kernel_rfl
theorem q_info32 : (Tryz.prog.info? 32).map (fun i => (i.zero, i.size, i.bytes)) = some (some (.agg #[.string ⟨#[]⟩, .string ⟨#[]⟩, .bool false, .int .i64 0, .int .i64 0, .string ⟨#[]⟩, .slice none 0 0, .slice none 0 0]), 8, 120) := by kernel_rfl
theorem tys_row {w : World} {ok : Nat → Prop} {g : Nat} (hg : ok g) : ∀ (ts : List Ty) (k : Nat), (∀ (i : Nat) (t : Ty), ts[i]? = some t → ∃ cs, TyV w ok t cs ∧ ∀ j v, cs[j]? = some v → w.cell? ⟨g, (k + i) * 5 + j, none⟩ = some v) → TysV w ok ts (some ⟨g, 0, none⟩) k
  | [], _, _ => trivial
  | t :: ts, k, h => by
    obtain ⟨cs, h1, h2⟩ := h 0 t rfl
    exact ⟨⟨g, 0, cs, rfl, hg, h1, fun j v e => by simpa using h2 j v e⟩, tys_row hg ts (k + 1) fun i t' e => by
      obtain ⟨cs, h1, h2⟩ := h (i + 1) t' (by simpa using e)
      exact ⟨cs, h1, fun j v e => by rw [show k + 1 + i = k + (i + 1) by omega]; exact h2 j v e⟩⟩
theorem fls_row {w : World} {ok : Nat → Prop} {g : Nat} (hg : ok g) : ∀ (ts : List Fl) (k : Nat), (∀ (i : Nat) (t : Fl), ts[i]? = some t → ∃ cs, FlV w ok t cs ∧ ∀ j v, cs[j]? = some v → w.cell? ⟨g, (k + i) * 8 + j, none⟩ = some v) → FlsV w ok ts (some ⟨g, 0, none⟩) k
  | [], _, _ => trivial
  | t :: ts, k, h => by
    obtain ⟨cs, h1, h2⟩ := h 0 t rfl
    exact ⟨⟨g, 0, cs, rfl, hg, h1, fun j v e => by simpa using h2 j v e⟩, fls_row hg ts (k + 1) fun i t' e => by
      obtain ⟨cs, h1, h2⟩ := h (i + 1) t' (by simpa using e)
      exact ⟨cs, h1, fun j v e => by rw [show k + 1 + i = k + (i + 1) by omega]; exact h2 j v e⟩⟩
theorem row_cell {w : World} {base e m : Nat} {v : Value} {css : List (List Value)} (hown : w.ownsRow base e m v css.length (flat css)) (hl : ∀ ws ∈ css, ws.length = m) :
    (v = .slice none 0 0 ∧ css = []) ∨ ∃ g cap, v = .slice (some ⟨g, 0, none⟩) css.length cap ∧ base ≤ g ∧ g < w.heap.size ∧ ∀ (i : Nat) (cs : List Value) (j : Nat) (u : Value), css[i]? = some cs → cs[j]? = some u → w.cell? ⟨g, i * m + j, none⟩ = some u := by
  rcases hown.2 with ⟨hv, hn0⟩ | ⟨g, cap, cur, hv, hb, hg, _, _, hcs, htk⟩
  · exact .inl ⟨hv, List.length_eq_zero_iff.1 hn0⟩
  · refine .inr ⟨g, cap, hv, hb, ?_, fun i cs j u e1 e2 => ?_⟩
    · rcases Nat.lt_or_ge g w.heap.size with h | h
      · exact h
      · rw [Array.getElem?_eq_none h] at hg; cases hg
    · have hf := q_flat_atk m css i j _ u hl e1 e2
      rw [← htk, List.getElem?_take] at hf
      split at hf
      · simp only [World.cell?, hg]
        simpa using hf
      · cases hf
/-- The copy is whole. -/
theorem FrSt.whole {w wx : World} {b0 b1 b2 b3 b4 : Value} {of : List Ty} {fs : List Fl} {a0 a1 a2 v u : Value} {css dss : List (List Value)} (h : FrSt w wx b0 b1 b2 b3 b4 of fs a0 a1 a2 v u css dss) (h1 : css.length = of.length) (h2 : dss.length = fs.length) :
    ∃ A cap D cad, v = .slice A of.length cap ∧ u = .slice D fs.length cad ∧ TysV wx (fun b => w.heap.size + 3 ≤ b ∧ b < wx.heap.size) of A 0 ∧ FlsV wx (fun b => w.heap.size + 3 ≤ b ∧ b < wx.heap.size) fs D 0 := by
  have e1 : ∀ (i : Nat) (cs : List Value) (t : Ty), css[i]? = some cs → of[i]? = some t → TyV wx (fun b => w.heap.size + 3 ≤ b ∧ b < wx.heap.size) t cs := fun i cs t q1 q2 => TyV.keep (fun b ⟨z1, z2, _, _⟩ => ⟨⟨z1, z2⟩, rfl⟩) _ _ (h.el1 i cs t q1 q2)
  have e2 : ∀ (i : Nat) (cs : List Value) (t : Fl), dss[i]? = some cs → fs[i]? = some t → FlV wx (fun b => w.heap.size + 3 ≤ b ∧ b < wx.heap.size) t cs := fun i cs t q1 q2 => FlV.keep (fun b ⟨z1, z2, _, _⟩ => ⟨⟨z1, z2⟩, rfl⟩) _ _ (h.el2 i cs t q1 q2)
  have l1 : ∀ ws ∈ css, ws.length = 5 := by
    intro ws hw
    obtain ⟨i, hi, rfl⟩ := List.mem_iff_getElem.1 hw
    exact (e1 i _ _ (List.getElem?_eq_getElem hi) (List.getElem?_eq_getElem (by omega : i < of.length))).len
  have l2 : ∀ ws ∈ dss, ws.length = 8 := by
    intro ws hw
    obtain ⟨i, hi, rfl⟩ := List.mem_iff_getElem.1 hw
    exact (e2 i _ _ (List.getElem?_eq_getElem hi) (List.getElem?_eq_getElem (by omega : i < fs.length))).len
  have r1 : ∃ A cap, v = .slice A of.length cap ∧ TysV wx (fun b => w.heap.size + 3 ≤ b ∧ b < wx.heap.size) of A 0 := by
    rcases row_cell h.own1 l1 with ⟨hv, hc⟩ | ⟨g, cap, hv, hb, hg, hc⟩
    · subst hc
      have : of = [] := List.length_eq_zero_iff.1 (by simpa using h1.symm)
      subst this
      exact ⟨none, 0, hv, trivial⟩
    · refine ⟨some ⟨g, 0, none⟩, cap, by rw [hv, h1], tys_row ⟨by omega, hg⟩ of 0 fun i t e => ?_⟩
      have hi : i < css.length := by have := (List.getElem?_eq_some_iff.1 e).1; omega
      have hci : css[i]? = some css[i] := List.getElem?_eq_getElem hi
      exact ⟨css[i], e1 i _ t hci e, fun j u e3 => by rw [Nat.zero_add]; exact hc i _ j u hci e3⟩
  have r2 : ∃ A cap, u = .slice A fs.length cap ∧ FlsV wx (fun b => w.heap.size + 3 ≤ b ∧ b < wx.heap.size) fs A 0 := by
    rcases row_cell h.own2 l2 with ⟨hv, hc⟩ | ⟨g, cap, hv, hb, hg, hc⟩
    · subst hc
      have : fs = [] := List.length_eq_zero_iff.1 (by simpa using h2.symm)
      subst this
      exact ⟨none, 0, hv, trivial⟩
    · refine ⟨some ⟨g, 0, none⟩, cap, by rw [hv, h2], fls_row ⟨by omega, hg⟩ fs 0 fun i t e => ?_⟩
      have hi : i < dss.length := by have := (List.getElem?_eq_some_iff.1 e).1; omega
      have hci : dss[i]? = some dss[i] := List.getElem?_eq_getElem hi
      exact ⟨dss[i], e2 i _ t hci e, fun j u e3 => by rw [Nat.zero_add]; exact hc i _ j u hci e3⟩
  obtain ⟨A, cap, q1, q2⟩ := r1
  obtain ⟨D, cad, q3, q4⟩ := r2
  exact ⟨A, cap, D, cad, q1, q3, q2, q4⟩
/-- The contract of freshType at a type. -/
def FrOk (T : Ty) : Prop := ∀ (w : World) (cs : List Value), TyV w (· < w.heap.size) T cs → Calls Tryz.prog 18 #[.agg cs.toArray] w fun e w' =>
  ∃ cs', e = .returned (.agg (List.toArray cs')) ∧ Below w.heap.size w w' ∧ TyV w' (fun b => w.heap.size ≤ b ∧ b < w'.heap.size) T cs'
set_option maxHeartbeats 4000000 in
set_option maxRecDepth 100000 in
theorem fresh_any : ∀ (N : Nat) (T : Ty), T.sz ≤ N → N ≤ 4000 → FrOk T := by
  intro N
  induction N with
  | zero => intro T h; have := T.sz_pos; omega
  | succ N ih =>
    intro T hsz hN w cs hT
    obtain ⟨k, n, s, of, fs⟩ := T
    obtain ⟨A, ca, D, cd, rfl, hbig, hof, hfs⟩ := hT
    have IH := Lib.hid ih
    have HOF := Lib.hid hof
    have HFS := Lib.hid hfs
    clear ih hof hfs
    go_enter Tryz.func18, Tryz.ntmps18
    go_upto_region 3 with fail
    have hst : FrSt w (((w.alloc (.cells #[.int .i64 k, .int .i64 n, .string s, .slice A of.length ca, .slice D fs.length cd] 26)).alloc (.cells #[.int .i64 0, .int .i64 0, .string ⟨#[]⟩, .slice none 0 0, .slice none 0 0] 26)).alloc (.cells #[.int .i64 k, .int .i64 n, .string s, .slice none 0 0, .slice none 0 0] 26))
        (.int .i64 k) (.int .i64 n) (.string s) (.slice A of.length ca) (.slice D fs.length cd) of fs (.int .i64 k) (.int .i64 n) (.string s) (.slice none 0 0) (.slice none 0 0) [] [] := by
      refine ⟨(((Below.refl _ _).alloc (Nat.le_refl _) _).alloc (by simp) _).alloc (by simp; omega) _, by simp, ?_, ?_, ?_, World.ownsRow_nil _ _ _ _, World.ownsRow_nil _ _ _ _, fun g e => by simp [Value.ownBlock] at e, fun i cs t e => by simp at e, fun i cs t e => by simp at e, by simp, by simp⟩
      · rw [Below.heap_alloc _ _ _ (by simp; omega), Below.heap_alloc _ _ _ (by simp), heap_alloc_new]
      · rw [Below.heap_alloc _ _ _ (by simp)]
        exact q_alloc_at (by simp) _
      · exact q_alloc_at (by simp) _
    obtain ⟨W0, hW0⟩ : ∃ W0, W0 = (((w.alloc (.cells #[.int .i64 k, .int .i64 n, .string s, .slice A of.length ca, .slice D fs.length cd] 26)).alloc (.cells #[.int .i64 0, .int .i64 0, .string ⟨#[]⟩, .slice none 0 0, .slice none 0 0] 26)).alloc (.cells #[.int .i64 k, .int .i64 n, .string s, .slice none 0 0, .slice none 0 0] 26)) := ⟨_, rfl⟩
    rw [← hW0] at hst ⊢
    clear hW0
    have HST := Lib.hid hst
    clear hst
    have hszo : ∀ t ∈ of, t.sz ≤ N := fun t ht => by
      obtain ⟨i, hi, rfl⟩ := List.mem_iff_getElem.1 ht
      have := szs_mem of i _ (List.getElem?_eq_getElem hi)
      simp only [Ty.sz] at hsz
      omega
    have hszf : ∀ f ∈ fs, f.t.sz ≤ N := fun f hf => by
      obtain ⟨i, hi, rfl⟩ := List.mem_iff_getElem.1 hf
      have h1 := szf_mem fs i _ (List.getElem?_eq_getElem hi)
      have h2 : (fs[i]).t.sz ≤ (fs[i]).sz := by
        cases fs[i]
        simp [Fl.sz, Fl.t]
      simp only [Ty.sz] at hsz
      omega
    have hlo : of.length ≤ 4000 := by
      have := q_szs_len of
      simp only [Ty.sz] at hsz
      omega
    have hlf : fs.length ≤ 4000 := by
      have := szf_len fs
      simp only [Ty.sz] at hsz
      omega
    have HSO := Lib.hid hszo
    have HSF := Lib.hid hszf
    have HBG := Lib.hid hbig
    clear hszo hszf hsz hbig
    go_wp2_with fail
    go_loopg [4] of.length (fun gk s4 wx => ∃ (j : Nat) (v : Value) (css : List (List Value)), s4 = .int .i64 j ∧ j ≤ of.length ∧ gk = of.length - j ∧ css.length = j ∧ FrSt w wx (.int .i64 k) (.int .i64 n) (.string s) (.slice A of.length ca) (.slice D fs.length cd) of fs (.int .i64 k) (.int .i64 n) (.string s) v (.slice none 0 0) css [])
    case atStart => exact ⟨0, _, [], rfl, Nat.zero_le _, rfl, rfl, HST.out⟩
    case round =>
      obtain ⟨j, v, css, rfl, hj, rfl, hcl, hst⟩ := hrel
      obtain ⟨V, hV⟩ : ∃ V, V = wr := ⟨_, rfl⟩
      subst hV
      obtain ⟨x0, x1, x2, x3, x4, xf⟩ := q_cells5 hst.bx
      obtain ⟨o0, o1, o2, o3, o4, of_⟩ := q_cells5 hst.out
      have HS := Lib.hid hst
      have HCL := Lib.hid hcl
      have hsV := hst.size
      clear hst hcl HST
      by_cases hlt : j < of.length
      ·
        obtain ⟨t, ht⟩ : ∃ t, of[j]? = some t := ⟨_, List.getElem?_eq_getElem hlt⟩
        obtain ⟨b, off, A', ca', B', cb', rfl, hbw, htv, hce⟩ := TysV.at_ HOF.out ht
        have hbV : V.heap[b]? = w.heap[b]? := HS.out.below.block b hbw
        have e0 : V.drew.cell? ⟨b, off + j * 5, none⟩ = some (.int .i64 t.kind) := (World.cell?_of_block hbV).trans hce.c0
        have e1 : V.drew.cell? ⟨b, off + j * 5 + 1, none⟩ = some (.int .i64 t.n) := (World.cell?_of_block hbV).trans hce.c1
        have e2 : V.drew.cell? ⟨b, off + j * 5 + 2, none⟩ = some (.string t.s) := (World.cell?_of_block hbV).trans hce.c2
        have e3 : V.drew.cell? ⟨b, off + j * 5 + 3, none⟩ = some (.slice A' t.of.length ca') := (World.cell?_of_block hbV).trans hce.c3
        have e4 : V.drew.cell? ⟨b, off + j * 5 + 4, none⟩ = some (.slice B' t.fields.length cb') := (World.cell?_of_block hbV).trans hce.c4
        have hj0 : (0 : Int) ≤ (j : Int) := by omega
        have hj1 : (j : Int) < (of.length : Int) := by omega
        have hcall := IH.out t (HSO.out t (List.mem_of_getElem? ht)) (by omega) V.drew _ (TyV.keep (w' := V.drew) (fun b hb => ⟨by have := HS.out.below.size; show b < V.heap.size; omega, HS.out.below.block b hb⟩) _ _ htv)
        have HC := Lib.hid hcall
        have HTE := Lib.hid ht
        have y3 : V.drew.cell? ⟨w.heap.size, 3, none⟩ = some (.slice (some ⟨b, off, none⟩) of.length ca) := x3
        have p3 : V.drew.cell? ⟨w.heap.size + 1 + 1, 3, none⟩ = some v := o3
        have pf : V.drew.frozen? ⟨w.heap.size + 1 + 1, 3, none⟩ = false := of_ 3
        clear hcall ht htv hce
        obtain ⟨i0, hi0, hz0, hz1, hz2⟩ := info_parts q_info26
        go_upto_region 6 with fail
        have hwV : w.heap.size < V.heap.size := by omega
        have hOV : w.heap.size + 1 + 1 < V.heap.size := by omega
        have hbVl : b < V.heap.size := by omega
        have hbO : b ≠ w.heap.size + 1 + 1 := by omega
        have hvlt : ∀ g, v.ownBlock = some g → w.heap.size + 3 ≤ g := fun g e => (HS.out.own1.lt g e).1
        have HVL := Lib.hid hvlt
        clear hvlt hbV
        refine wp_region_noPanic ?_
        refine wp_region_held_drew (S := (fun w' => w'.cell? ⟨w.heap.size, 3, none⟩ = some (.slice (some ⟨b, off, none⟩) of.length ca) ∧ w'.cell? ⟨b, off + j * 5, none⟩ = some (.int .i64 t.kind) ∧ w'.cell? ⟨b, off + j * 5 + 1, none⟩ = some (.int .i64 t.n) ∧ w'.cell? ⟨b, off + j * 5 + 2, none⟩ = some (.string t.s) ∧ w'.cell? ⟨b, off + j * 5 + 3, none⟩ = some (.slice A' t.of.length ca') ∧ w'.cell? ⟨b, off + j * 5 + 4, none⟩ = some (.slice B' t.fields.length cb'))) (by kernel_rfl) ?_ (fun hHeldq => ?_)
        · (try dsimp only); with_reducible exact ⟨y3, e0, e1, e2, e3, e4⟩
        refine wpAnyH_take (i := 0) (oi := _) (v := ?_) rfl (by kernel_rfl) (by kernel_rfl) (by kernel_rfl) (fun _ _ _ h => h) (Or.inl ⟨by rfl, ?_⟩) (by assumption) ?_
        rotate_left
        · (intro wq hSwq; (try dsimp only at hSwq); go_simp; (try with_reducible rfl))
        try simp only [Act.put, List.getElem_toArray, List.getElem_cons_zero, List.getElem_cons_succ, List.setIfInBounds_toArray, List.set_cons_zero, List.set_cons_succ]
        refine wpAnyH_take (i := 2) (oi := _) (v := ?_) rfl (by kernel_rfl) (by kernel_rfl) (by kernel_rfl) (fun _ _ _ h => h) (Or.inl ⟨by rfl, ?_⟩) (by assumption) ?_
        rotate_left
        · (intro wq hSwq; (try dsimp only at hSwq); go_simp; (try with_reducible rfl))
        try simp only [Act.put, List.getElem_toArray, List.getElem_cons_zero, List.getElem_cons_succ, List.setIfInBounds_toArray, List.set_cons_zero, List.set_cons_succ]
        refine wpAnyH_take (i := 3) (oi := _) (v := ?_) rfl (by kernel_rfl) (by kernel_rfl) (by kernel_rfl) (fun _ _ _ h => h) (Or.inl ⟨by rfl, ?_⟩) (by assumption) ?_
        rotate_left
        · (intro wq hSwq; (try dsimp only at hSwq); go_simp; (try with_reducible rfl))
        try simp only [Act.put, List.getElem_toArray, List.getElem_cons_zero, List.getElem_cons_succ, List.setIfInBounds_toArray, List.set_cons_zero, List.set_cons_succ]
        refine wpAnyH_take (i := 4) (oi := _) (v := ?_) rfl (by kernel_rfl) (by kernel_rfl) (by kernel_rfl) (fun _ _ _ h => h) (Or.inl ⟨by rfl, ?_⟩) (by assumption) ?_
        rotate_left
        · (intro wq hSwq; (try dsimp only at hSwq); go_simp; (try with_reducible rfl))
        try simp only [Act.put, List.getElem_toArray, List.getElem_cons_zero, List.getElem_cons_succ, List.setIfInBounds_toArray, List.set_cons_zero, List.set_cons_succ]
        refine wpAnyH_take (i := 5) (oi := _) (v := ?_) rfl (by kernel_rfl) (by kernel_rfl) (by kernel_rfl) (fun _ _ _ h => h) (Or.inl ⟨by rfl, ?_⟩) (by assumption) ?_
        rotate_left
        · (intro wq hSwq; (try dsimp only at hSwq); go_simp; (try with_reducible rfl))
        try simp only [Act.put, List.getElem_toArray, List.getElem_cons_zero, List.getElem_cons_succ, List.setIfInBounds_toArray, List.set_cons_zero, List.set_cons_succ]
        refine wpAnyH_take (i := 6) (oi := _) (v := ?_) rfl (by kernel_rfl) (by kernel_rfl) (by kernel_rfl) (fun _ _ _ h => h) (Or.inl ⟨by rfl, ?_⟩) (by assumption) ?_
        rotate_left
        · (intro wq hSwq; (try dsimp only at hSwq); go_simp; (try with_reducible rfl))
        try simp only [Act.put, List.getElem_toArray, List.getElem_cons_zero, List.getElem_cons_succ, List.setIfInBounds_toArray, List.set_cons_zero, List.set_cons_succ]
        refine wpAnyH_ready (rs := [1, 7]) (by kernel_rfl) (by simp) ?_
        refine AllReadyH.cons rfl (fun Kq hKq => ?_) (AllReadyH.cons rfl (fun Kq hKq => ?_) AllReadyH.nil)
        go_simp
        refine hKq.out _ _ ?_ (fun hHeld2 => ?_)
        · (try dsimp only); with_reducible exact ⟨y3, e0, e1, e2, e3, e4⟩
        clear hKq Kq hHeldq
        have hHeldq := hHeld2
        clear hHeld2
        try simp only [Act.put, List.getElem_toArray, List.getElem_cons_zero, List.getElem_cons_succ, List.setIfInBounds_toArray, List.set_cons_zero, List.set_cons_succ]
        refine wpAnyH_ready (rs := [7]) (by kernel_rfl) (by simp) ?_
        refine AllReadyH.cons rfl (fun Kq hKq => ?_) AllReadyH.nil
        go_simp
        (go_at_call 18; refine HC.out.mono ?_; rintro e w5 ⟨cs5, rfl, hb5, ht5⟩; obtain ⟨A9, c9, B9, d9, rfl, _⟩ := ht5.open_; have hb5 := below_of_drew hb5; have hs5 := hb5.size; have hb5b := hb5.block b hbVl; have hb5x := hb5.block w.heap.size hwV; have hb5o := hb5.block (w.heap.size + 1 + 1) hOV; have k3 := (World.cell?_of_block hb5x).trans y3; have k0 := (World.cell?_of_block hb5b).trans e0; have k1 := (World.cell?_of_block hb5b).trans e1; have k2 := (World.cell?_of_block hb5b).trans e2; have k3' := (World.cell?_of_block hb5b).trans e3; have k4 := (World.cell?_of_block hb5b).trans e4; have q3 := (World.cell?_of_block hb5o).trans p3; have qf := (World.frozen?_of_block hb5o).trans pf; have hal : ∀ (o : Obj) (x : Nat), x < V.heap.size → (w5.alloc o).heap[x]? = w5.heap[x]? := fun o x hx => Below.heap_alloc w5 o x (by omega); have l3 := fun o => (World.cell?_of_block (hal o _ hwV)).trans k3; have l0 := fun o => (World.cell?_of_block (hal o b hbVl)).trans k0; have l1 := fun o => (World.cell?_of_block (hal o b hbVl)).trans k1; have l2 := fun o => (World.cell?_of_block (hal o b hbVl)).trans k2; have l3' := fun o => (World.cell?_of_block (hal o b hbVl)).trans k3'; have l4 := fun o => (World.cell?_of_block (hal o b hbVl)).trans k4; have lq3 := fun o => (World.cell?_of_block (hal o _ hOV)).trans q3; have hown5 : w5.ownsRow (w.heap.size + 3) 26 5 v j (flat css) := (by rw [← HCL.out]; exact ownG_below HS.out.own1 hb5); have HO5 := Lib.hid hown5; have HB5 := Lib.hid hb5; have HT5 := Lib.hid ht5; clear hb5 ht5 hown5 hal hb5b hb5x hb5o)
        go_wp2_with fail
        refine hKq.out _ _ ?_ (fun hHeld2 => ?_)
        · (try dsimp only); with_reducible exact ⟨k3, k0, k1, k2, k3', k4⟩
        clear hKq Kq hHeldq
        have hHeldq := hHeld2
        clear hHeld2
        try simp only [Act.put, List.getElem_toArray, List.getElem_cons_zero, List.getElem_cons_succ, List.setIfInBounds_toArray, List.set_cons_zero, List.set_cons_succ]
        refine wpAnyH_ready (rs := [8]) (by kernel_rfl) (by simp) ?_
        refine AllReadyH.cons rfl (fun Kq hKq => ?_) AllReadyH.nil
        go_simp
        refine hKq.out _ _ ?_ (fun hHeld2 => ?_)
        · (try dsimp only); with_reducible exact ⟨l3 _, l0 _, l1 _, l2 _, l3' _, l4 _⟩
        clear hKq Kq hHeldq
        have hHeldq := hHeld2
        clear hHeld2
        try simp only [Act.put, List.getElem_toArray, List.getElem_cons_zero, List.getElem_cons_succ, List.setIfInBounds_toArray, List.set_cons_zero, List.set_cons_succ]
        rotate_left
        go_simp
        (go_at_call 18; refine HC.out.mono ?_; rintro e w5 ⟨cs5, rfl, hb5, ht5⟩; obtain ⟨A9, c9, B9, d9, rfl, _⟩ := ht5.open_; have hb5 := below_of_drew hb5; have hs5 := hb5.size; have hb5b := hb5.block b hbVl; have hb5x := hb5.block w.heap.size hwV; have hb5o := hb5.block (w.heap.size + 1 + 1) hOV; have k3 := (World.cell?_of_block hb5x).trans y3; have k0 := (World.cell?_of_block hb5b).trans e0; have k1 := (World.cell?_of_block hb5b).trans e1; have k2 := (World.cell?_of_block hb5b).trans e2; have k3' := (World.cell?_of_block hb5b).trans e3; have k4 := (World.cell?_of_block hb5b).trans e4; have q3 := (World.cell?_of_block hb5o).trans p3; have qf := (World.frozen?_of_block hb5o).trans pf; have hal : ∀ (o : Obj) (x : Nat), x < V.heap.size → (w5.alloc o).heap[x]? = w5.heap[x]? := fun o x hx => Below.heap_alloc w5 o x (by omega); have l3 := fun o => (World.cell?_of_block (hal o _ hwV)).trans k3; have l0 := fun o => (World.cell?_of_block (hal o b hbVl)).trans k0; have l1 := fun o => (World.cell?_of_block (hal o b hbVl)).trans k1; have l2 := fun o => (World.cell?_of_block (hal o b hbVl)).trans k2; have l3' := fun o => (World.cell?_of_block (hal o b hbVl)).trans k3'; have l4 := fun o => (World.cell?_of_block (hal o b hbVl)).trans k4; have lq3 := fun o => (World.cell?_of_block (hal o _ hOV)).trans q3; have hown5 : w5.ownsRow (w.heap.size + 3) 26 5 v j (flat css) := (by rw [← HCL.out]; exact ownG_below HS.out.own1 hb5); have HO5 := Lib.hid hown5; have HB5 := Lib.hid hb5; have HT5 := Lib.hid ht5; clear hb5 ht5 hown5 hal hb5b hb5x hb5o)
        go_wp2_with fail
        refine hKq.out _ _ ?_ (fun hHeld2 => ?_)
        · (try dsimp only); with_reducible exact ⟨k3, k0, k1, k2, k3', k4⟩
        clear hKq Kq hHeldq
        have hHeldq := hHeld2
        clear hHeld2
        try simp only [Act.put, List.getElem_toArray, List.getElem_cons_zero, List.getElem_cons_succ, List.setIfInBounds_toArray, List.set_cons_zero, List.set_cons_succ]
        refine wpAnyH_ready (rs := [1, 8]) (by kernel_rfl) (by simp) ?_
        refine AllReadyH.cons rfl (fun Kq hKq => ?_) (AllReadyH.cons rfl (fun Kq hKq => ?_) AllReadyH.nil)
        go_simp
        refine hKq.out _ _ ?_ (fun hHeld2 => ?_)
        · (try dsimp only); with_reducible exact ⟨k3, k0, k1, k2, k3', k4⟩
        clear hKq Kq hHeldq
        have hHeldq := hHeld2
        clear hHeld2
        try simp only [Act.put, List.getElem_toArray, List.getElem_cons_zero, List.getElem_cons_succ, List.setIfInBounds_toArray, List.set_cons_zero, List.set_cons_succ]
        refine wpAnyH_ready (rs := [8]) (by kernel_rfl) (by simp) ?_
        refine AllReadyH.cons rfl (fun Kq hKq => ?_) AllReadyH.nil
        go_simp
        refine hKq.out _ _ ?_ (fun hHeld2 => ?_)
        · (try dsimp only); with_reducible exact ⟨l3 _, l0 _, l1 _, l2 _, l3' _, l4 _⟩
        clear hKq Kq hHeldq
        have hHeldq := hHeld2
        clear hHeld2
        try simp only [Act.put, List.getElem_toArray, List.getElem_cons_zero, List.getElem_cons_succ, List.setIfInBounds_toArray, List.set_cons_zero, List.set_cons_succ]
        rotate_left
        go_simp
        refine hKq.out _ _ ?_ (fun hHeld2 => ?_)
        · (try dsimp only); with_reducible exact ⟨l3 _, l0 _, l1 _, l2 _, l3' _, l4 _⟩
        clear hKq Kq hHeldq
        have hHeldq := hHeld2
        clear hHeld2
        try simp only [Act.put, List.getElem_toArray, List.getElem_cons_zero, List.getElem_cons_succ, List.setIfInBounds_toArray, List.set_cons_zero, List.set_cons_succ]
        refine wpAnyH_ready (rs := [1]) (by kernel_rfl) (by simp) ?_
        refine AllReadyH.cons rfl (fun Kq hKq => ?_) AllReadyH.nil
        go_simp
        refine hKq.out _ _ ?_ (fun hHeld2 => ?_)
        · (try dsimp only); with_reducible exact ⟨l3 _, l0 _, l1 _, l2 _, l3' _, l4 _⟩
        clear hKq Kq hHeldq
        have hHeldq := hHeld2
        clear hHeld2
        try simp only [Act.put, List.getElem_toArray, List.getElem_cons_zero, List.getElem_cons_succ, List.setIfInBounds_toArray, List.set_cons_zero, List.set_cons_succ]
        all_goals
          refine wpAnyH_ready (rs := [9]) (by kernel_rfl) (by simp) ?_
          refine AllReadyH.cons rfl (fun Kq hKq => ?_) AllReadyH.nil
          (refine step_append_lies _ rfl (.tmp 18) (.tmp 25) 23 rfl (w.heap.size + 3) 26 i0 _ 5 80 Tryz.underlying23 hi0 hz0 hz1 hz2 rfl (by decide) v j (flat css) (by simp [Act.eval, Act.put]) (World.ownsRow.alloc HO5.out _) ⟨w5.heap.size, 0, none⟩ 1 1 [.int .i64 t.kind, .int .i64 t.n, .string t.s, .slice A9 t.of.length c9, .slice B9 t.fields.length d9] (by simp [Act.eval, Act.put]) rfl (World.news_of_block (heap_alloc_new w5 _)) (by simp [Value.oneCell']) (by decide) (by unfold maxLen; omega) (by omega) (by simp; omega) _ rfl ?_; intro g cap w9 hown9 hg9 hat hlt9; have k9 := q_far HVL.out hg9; have r9 := k9 (w.heap.size + 1 + 1) (by omega) (by omega); have m3 := (World.cell?_of_block (k9 w.heap.size (by omega) (by omega))).trans k3; have hb9 := k9 b (by omega) (by omega); have n0_ := (World.cell?_of_block hb9).trans k0; have n1_ := (World.cell?_of_block hb9).trans k1; have n2_ := (World.cell?_of_block hb9).trans k2; have n3_ := (World.cell?_of_block hb9).trans k3'; have n4_ := (World.cell?_of_block hb9).trans k4; have r3 := (World.cell?_of_block r9).trans q3; have rf := (World.frozen?_of_block r9).trans qf; have HO9 := Lib.hid hown9; have HG9 := Lib.hid hg9; clear hown9 hg9 k9 r9 hb9)
          refine hKq.out _ _ ?_ (fun hHeld2 => ?_)
          · (try dsimp only); with_reducible exact ⟨m3, n0_, n1_, n2_, n3_, n4_⟩
          clear hKq Kq hHeldq
          have hHeldq := hHeld2
          clear hHeld2
          try simp only [Act.put, List.getElem_toArray, List.getElem_cons_zero, List.getElem_cons_succ, List.setIfInBounds_toArray, List.set_cons_zero, List.set_cons_succ]
          refine wpAnyH_take (i := 10) (oi := _) (v := ?_) rfl (by kernel_rfl) (by kernel_rfl) (by kernel_rfl) (fun _ _ _ h => h) (Or.inl ⟨by rfl, ?_⟩) (by assumption) ?_
          rotate_left
          · (intro wq hSwq; (try dsimp only at hSwq); go_simp; (try with_reducible rfl))
          try simp only [Act.put, List.getElem_toArray, List.getElem_cons_zero, List.getElem_cons_succ, List.setIfInBounds_toArray, List.set_cons_zero, List.set_cons_succ]
          refine wpAnyH_ready (rs := [11]) (by kernel_rfl) (by simp) ?_
          refine AllReadyH.cons rfl (fun Kq hKq => ?_) AllReadyH.nil
          go_simp
          refine hKq.out _ _ ?_ (fun hHeld2 => ?_)
          · (try dsimp only); exact ⟨(World.cell?_setCell_far _ _ _ _ (by simp; omega)).trans m3, (World.cell?_setCell_far _ _ _ _ (by simp; omega)).trans n0_, (World.cell?_setCell_far _ _ _ _ (by simp; omega)).trans n1_, (World.cell?_setCell_far _ _ _ _ (by simp; omega)).trans n2_, (World.cell?_setCell_far _ _ _ _ (by simp; omega)).trans n3_, (World.cell?_setCell_far _ _ _ _ (by simp; omega)).trans n4_⟩
          clear hKq Kq hHeldq
          have hHeldq := hHeld2
          clear hHeld2
          try simp only [Act.put, List.getElem_toArray, List.getElem_cons_zero, List.getElem_cons_succ, List.setIfInBounds_toArray, List.set_cons_zero, List.set_cons_succ]
          refine wpAnyH_done (by kernel_rfl) ?_ _
        all_goals refine NoPanic.normal ?_
        all_goals
          have hcl := HCL.out
          subst hcl
          have ht6 : TyV w5 (fun b => V.heap.size ≤ b ∧ b < w5.heap.size) t _ := TyV.keep (fun b hb => ⟨hb, rfl⟩) _ _ HT5.out
          have hst2 := HS.out.pushT (b0 := .int .i64 k) HB5.out ht6 HTE.out HO9.out HG9.out hat rfl
          have HS2 := Lib.hid hst2
          clear hst2 ht6
          go_wp2_with fail
          go_roundg (of.length - (css.length + 1))
          case measure => omega
          case rel => exact ⟨css.length + 1, _, _, by go_num, by omega, rfl, by simp, HS2.out⟩
      · have hje : j = of.length := by omega
        subst hje
        go_wp2_with fail
        go_loopg [5] fs.length (fun gk s5 wx => ∃ (i : Nat) (u : Value) (dss : List (List Value)), s5 = .int .i64 i ∧ i ≤ fs.length ∧ gk = fs.length - i ∧ dss.length = i ∧ FrSt w wx (.int .i64 k) (.int .i64 n) (.string s) (.slice A of.length ca) (.slice D fs.length cd) of fs (.int .i64 k) (.int .i64 n) (.string s) v u css dss)
        case atStart => exact ⟨0, _, [], rfl, Nat.zero_le _, rfl, rfl, HS.out⟩
        case round =>
          obtain ⟨i, u, dss, rfl, hi, rfl, hdl, hst⟩ := hrel
          obtain ⟨U, hU⟩ : ∃ U, U = wr := ⟨_, rfl⟩
          subst hU
          clear x0 x1 x2 x3 x4 xf o0 o1 o2 o3 o4 of_
          obtain ⟨x0, x1, x2, x3, x4, xf⟩ := q_cells5 hst.bx
          obtain ⟨o0, o1, o2, o3, o4, of_⟩ := q_cells5 hst.out
          have HSU := Lib.hid hst
          have HDL := Lib.hid hdl
          have hsU := hst.size
          clear hst hdl HS
          by_cases hlt2 : i < fs.length
          · obtain ⟨f, hf⟩ : ∃ f, fs[i]? = some f := ⟨_, List.getElem?_eq_getElem hlt2⟩
            obtain ⟨b, off, A', ca', B', cb', rfl, hbw, hfz, htv, hce⟩ := FlsV.at_ HFS.out hf
            have hbV : U.heap[b]? = w.heap[b]? := HSU.out.below.block b hbw
            have e0 : U.cell? ⟨b, off + i * 8, none⟩ = some (.string f.name) := (World.cell?_of_block hbV).trans hce.c0
            have e1 : U.cell? ⟨b, off + i * 8 + 1, none⟩ = some (.string f.tag) := (World.cell?_of_block hbV).trans hce.c1
            have e2 : U.cell? ⟨b, off + i * 8 + 2, none⟩ = some (.bool f.emb) := (World.cell?_of_block hbV).trans hce.c2
            have e3 : U.cell? ⟨b, off + i * 8 + 3, none⟩ = some (.int .i64 f.t.kind) := (World.cell?_of_block hbV).trans hce.c3
            have e4 : U.cell? ⟨b, off + i * 8 + 4, none⟩ = some (.int .i64 f.t.n) := (World.cell?_of_block hbV).trans hce.c4
            have e5 : U.cell? ⟨b, off + i * 8 + 5, none⟩ = some (.string f.t.s) := (World.cell?_of_block hbV).trans hce.c5
            have e6 : U.cell? ⟨b, off + i * 8 + 6, none⟩ = some (.slice A' f.t.of.length ca') := (World.cell?_of_block hbV).trans hce.c6
            have e7 : U.cell? ⟨b, off + i * 8 + 7, none⟩ = some (.slice B' f.t.fields.length cb') := (World.cell?_of_block hbV).trans hce.c7
            have hi0 : (0 : Int) ≤ (i : Int) := by omega
            have hi1 : (i : Int) < (fs.length : Int) := by omega
            have hcall := fun W1 (hb1 : Below U.heap.size U W1) => IH.out f.t (HSF.out f (List.mem_of_getElem? hf)) (by omega) W1 _ (TyV.keep (w' := W1) (fun b hb => ⟨by have := HSU.out.below.size; have := hb1.size; omega, (hb1.block b (by have := HSU.out.below.size; omega)).trans (HSU.out.below.block b hb)⟩) _ _ htv)
            have HC := Lib.hid hcall
            have HFE := Lib.hid hf
            have HFZ := Lib.hid hfz
            clear hcall hf htv hce hfz hbV
            go_upto_region 12 with (go_at_call 18; refine (HC.out _ ((Below.refl _ _).alloc (Nat.le_refl _) _)).mono ?_; rintro e w5 ⟨cs5, rfl, hb5, ht5⟩; obtain ⟨A9, c9, B9, d9, rfl, _⟩ := ht5.open_; refine Hid.out ?_)
            have hF5 : w5.heap[U.heap.size]? = some (.cells #[.string f.name, .string f.tag, .bool f.emb, .int .i64 f.t.kind, .int .i64 f.t.n, .string f.t.s, .slice A' f.t.of.length ca', .slice B' f.t.fields.length cb'] 32) := (hb5.block U.heap.size (by simp)).trans (heap_alloc_new _ _)
            obtain ⟨g0, g1, g2, g3, g4, g5, g6, g7, gf⟩ := q_cells8 hF5
            have hb5U : Below U.heap.size U w5 := ((Below.refl _ _).alloc (Nat.le_refl _) _).trans (hb5.mono (by simp))
            have hs5 := hb5.size
            simp only [World.size_alloc] at hs5
            have ht5' : TyV w5 (fun b => U.heap.size + 1 ≤ b ∧ b < w5.heap.size) f.t _ := TyV.keep (fun b hb => ⟨⟨by have := hb.1; simp at this; omega, hb.2⟩, rfl⟩) _ _ ht5
            have HF5 := Lib.hid hF5
            have HB5 := Lib.hid hb5U
            have HT5 := Lib.hid ht5'
            clear hF5 hb5 ht5 hb5U ht5'
            refine Lib.hid ?_
            go_upto_region 12 with fail
            obtain ⟨p1, p2⟩ := q_put_at (.int .i64 f.t.kind) (.int .i64 f.t.n) (.string f.t.s) (.slice A9 f.t.of.length c9) (.slice B9 f.t.fields.length d9) HF5.out
            obtain ⟨W6, hW6⟩ : ∃ W6, W6 = (((((w5.setCell ⟨U.heap.size, 3, none⟩ (.int .i64 f.t.kind)).setCell ⟨U.heap.size, 4, none⟩ (.int .i64 f.t.n)).setCell ⟨U.heap.size, 5, none⟩ (.string f.t.s)).setCell ⟨U.heap.size, 6, none⟩ (.slice A9 f.t.of.length c9)).setCell ⟨U.heap.size, 7, none⟩ (.slice B9 f.t.fields.length d9)) := ⟨_, rfl⟩
            have p1 : W6.heap[U.heap.size]? = some (.cells #[.string f.name, .string f.tag, .bool f.emb, .int .i64 f.t.kind, .int .i64 f.t.n, .string f.t.s, .slice A9 f.t.of.length c9, .slice B9 f.t.fields.length d9] 32) := by rw [hW6]; exact p1
            have p2 : Ext (fun k => k = U.heap.size) w5 W6 := by rw [hW6]; exact p2
            rw [← hW6]
            clear hW6 g0 g1 g2 g3 g4 g5 g6 g7 gf
            obtain ⟨g0, g1, g2, g3, g4, g5, g6, g7, gf⟩ := q_cells8 p1
            have hs6 := p2.size
            have hb6 : Below U.heap.size U W6 := ⟨p2.os.trans HB5.out.os, p2.tape.trans HB5.out.tape, p2.output.trans HB5.out.output, by omega, fun k hk => (p2.block k (by omega) (by omega)).trans (HB5.out.block k hk)⟩
            have o4' : W6.cell? ⟨w.heap.size + 1 + 1, 4, none⟩ = some u := (World.cell?_of_block (hb6.block (w.heap.size + 1 + 1) (by omega))).trans o4
            have of6 : ∀ j, W6.frozen? ⟨w.heap.size + 1 + 1, j, none⟩ = false := fun j => (World.frozen?_of_block (hb6.block (w.heap.size + 1 + 1) (by omega))).trans (of_ j)
            have hown6 := ownG_below HSU.out.own2 hb6
            rw [HDL.out] at hown6
            have hfl6 : FlV W6 (fun b => U.heap.size ≤ b ∧ b < W6.heap.size) f [.string f.name, .string f.tag, .bool f.emb, .int .i64 f.t.kind, .int .i64 f.t.n, .string f.t.s, .slice A9 f.t.of.length c9, .slice B9 f.t.fields.length d9] := by
              have h6 : TyV W6 (fun b => U.heap.size ≤ b ∧ b < W6.heap.size) f.t _ := TyV.keep (fun b ⟨z1, z2⟩ => ⟨⟨by omega, by omega⟩, p2.block b z2 (by omega)⟩) _ _ HT5.out
              cases f
              exact ⟨_, rfl, HFZ.out, h6⟩
            have HB6 := Lib.hid hb6
            have HO6 := Lib.hid hown6
            have HFL := Lib.hid hfl6
            have HUL := Lib.hid fun g (e : u.ownBlock = some g) => (HSU.out.own2.lt g e).1
            clear p1 p2 hb6 hown6 hfl6 HF5 HB5 HT5 HC e0 e1 e2 e3 e4 e5 e6 e7
            obtain ⟨i0, hi0', hz0, hz1, hz2⟩ := info_parts q_info32
            go_wp2_with (at_builtin; refine wpList_append_lies _ rfl (.tmp 45) (.tmp 47) 24 rfl (w.heap.size + 3) 32 i0 _ 8 120 Tryz.underlying24 hi0' hz0 hz1 hz2 rfl (by decide) u i (flat dss) rfl (HO6.out.alloc _) ⟨W6.heap.size, 0, none⟩ 1 1 [.string f.name, .string f.tag, .bool f.emb, .int .i64 f.t.kind, .int .i64 f.t.n, .string f.t.s, .slice A9 f.t.of.length c9, .slice B9 f.t.fields.length d9] rfl rfl (World.news_of_block (by simpa using heap_alloc_new W6 _)) (by simp [Value.oneCell']) (by decide) (by unfold maxLen; omega) (by omega) (by simp; omega) _ rfl ?_; intro g9 cap9 w9 hown9 hg9 hat hlt9; refine Hid.out ?_)
            have r9 := q_far HUL.out hg9 (w.heap.size + 1 + 1) (by omega) (by omega)
            have r4 := (World.cell?_of_block r9).trans o4'
            have rf := fun j => (World.frozen?_of_block r9).trans (of6 j)
            have HO9 := Lib.hid hown9
            have HG9 := Lib.hid hg9
            clear hown9 hg9 r9
            refine Lib.hid ?_
            go_wp2_with fail
            have hdl := HDL.out
            subst hdl
            have hst2 := HSU.out.pushF (b0 := .int .i64 k) HB6.out HFL.out HFE.out HO9.out HG9.out hat rfl
            have HS2 := Lib.hid hst2
            clear hst2
            go_roundg (fs.length - (dss.length + 1))
            case measure => omega
            case rel => exact ⟨dss.length + 1, _, _, by go_num, by omega, rfl, by simp, HS2.out⟩
          · have hie : i = fs.length := by omega
            subst hie
            obtain ⟨r0, r1, r2, r3, r4, rf⟩ := q_cells5 HSU.out.res
            obtain ⟨A7, c7, D7, d7, rfl, rfl, hty7, hfl7⟩ := HSU.out.whole HCL.out HDL.out
            have HY7 := Lib.hid hty7
            have HL7 := Lib.hid hfl7
            clear hty7 hfl7
            go_wp2_with fail
            obtain ⟨p1, p2⟩ := q_put5_at (.int .i64 k) (.int .i64 n) (.string s) (.slice A7 of.length c7) (.slice D7 fs.length d7) HSU.out.res
            obtain ⟨W7, hW7⟩ : ∃ W7, W7 = (((((U.setCell ⟨w.heap.size + 1, 0, none⟩ (.int .i64 k)).setCell ⟨w.heap.size + 1, 1, none⟩ (.int .i64 n)).setCell ⟨w.heap.size + 1, 2, none⟩ (.string s)).setCell ⟨w.heap.size + 1, 3, none⟩ (.slice A7 of.length c7)).setCell ⟨w.heap.size + 1, 4, none⟩ (.slice D7 fs.length d7)) := ⟨_, rfl⟩
            rw [← hW7] at p1 p2 ⊢
            refine bodyPost_ret (v := .agg #[.int .i64 k, .int .i64 n, .string s, .slice A7 of.length c7, .slice D7 fs.length d7]) ?_ rfl ?_
            · simp [results, Tryz.results18, go_sem, World.cell?, p1]
            · have hs7 := p2.size
              have hk7 : ∀ b, (w.heap.size + 3 ≤ b ∧ b < U.heap.size) → (w.heap.size ≤ b ∧ b < W7.heap.size) ∧ W7.heap[b]? = U.heap[b]? := fun b ⟨z1, z2⟩ => ⟨⟨by omega, by omega⟩, p2.block b z2 (by omega)⟩
              have hb7 : Below w.heap.size w W7 := ⟨p2.os.trans HSU.out.below.os, p2.tape.trans HSU.out.below.tape, p2.output.trans HSU.out.below.output, by omega, fun b hb => (p2.block b (by omega) (by omega)).trans (HSU.out.below.block b hb)⟩
              exact ⟨[.int .i64 k, .int .i64 n, .string s, .slice A7 of.length c7, .slice D7 fs.length d7], rfl, hb7, A7, c7, D7, d7, rfl, HBG.out, TysV.keep hk7 _ _ _ HY7.out, FlsV.keep hk7 _ _ _ HL7.out⟩
end Go.Proofs.YtnmgocbmofbppaaGreatDoor
