/- addFieldInfo: laws of the cells: copy of structs inside a row; a row that grows or loses one. Plain: what getTypeInfo says, field by field; ways and numbers of fields. getTypeInfo: the state in which it works, and what turns it. Plain. -/
import Derived.Test.YtnmgocbmofbppaaGreatDoorA25
import Derived.IntWalk

set_option linter.unusedVariables false
set_option linter.unusedSimpArgs false

namespace Go.Proofs.YtnmgocbmofbppaaGreatDoor
open Go.RowKit

theorem run_copy_rows {P : Program} (w : World) (dT sT ty elem : TypeId) (sz g o dLen dCap : Nat) (a : Addr) (sLen sCap : Nat) (cur : Array Value) (t : TypeId) (cs : List Value)
    (hu : P.underlying dT = some (.slice elem)) (hs : (P.info? elem).map (·.size) = some sz)
    (hg : w.heap[g]? = some (.cells cur t (0, 0))) (hn : cs.length = Nat.min sLen dLen * sz)
    (hsrc : ∀ j v, cs[j]? = some v → w.cell? (a.add j) = some v) (hfit : o + cs.length ≤ cur.size) (h1 : ∀ v ∈ cs, v.oneCell' = true) :
    (Builtin.copy_ #[dT, sT] ty #[.slice (some ⟨g, o, none⟩) dLen dCap, .slice (some a) sLen sCap]).run P w =
      .ok (goInt (Nat.min sLen dLen)) (w.setRow g (cur.toList.take o ++ cs ++ cur.toList.drop (o + cs.length)).toArray) := by
  have hl := run_loadCells_list (P := P) w a cs hsrc
  have hst := run_storeCells_at P g o t cs 0 cur w hg (by simpa using hfit) h1
  cases hq : P.info? elem with
  | none => simp [hq] at hs
  | some i =>
    have hi : i.size = sz := by simpa [hq] using hs
    simp [Builtin.copy_, run_underlying hu, Builtin.lenOf, Builtin.firstCells, sizeOf, typeInfo, hq, hi, ← hn, hl, hst]
theorem wpList_copy_rows {P : Program} {w : World} {ops : Array Oper} {rest : List Oper} {o : Oper} {a : Act} {Q : Exit → Act → World → Prop} (hgd : o.guard = none) (d s : Operand) (dT sT : TypeId)
    (ho : o.op = .call { callee := .builtin .copy, args := #[d, s], argTypes := #[dT, sT] }) (elem : TypeId) (hu : P.underlying dT = some (.slice elem)) (sz : Nat) (hsz : (P.info? elem).map (·.size) = some sz)
    (g off dLen dCap : Nat) (ad : Addr) (sLen sCap : Nat) (hd : a.eval d = .slice (some ⟨g, off, none⟩) dLen dCap) (hs : a.eval s = .slice (some ad) sLen sCap)
    (cur : Array Value) (t : TypeId) (hg : w.heap[g]? = some (.cells cur t (0, 0))) (cs : List Value) (hn : cs.length = Nat.min sLen dLen * sz)
    (hsrc : ∀ j v, cs[j]? = some v → w.cell? (ad.add j) = some v) (hfit : off + cs.length ≤ cur.size) (h1 : ∀ v ∈ cs, v.oneCell' = true)
    (h : ∀ w', w' = w.setRow g (cur.toList.take off ++ cs ++ cur.toList.drop (off + cs.length)).toArray → wpList P ops Q rest (a.put o.dst (goInt (Nat.min sLen dLen))) w') : wpList P ops Q (o :: rest) a w := by
  refine wpList_plain hgd fun K hK => ?_
  have hrun := run_copy_rows (P := P) w dT sT o.type elem sz g off dLen dCap ad sLen sCap cur t cs hu hsz hg hn hsrc hfit h1
  unfold Oper.wp
  simp [execOp, ho, resolve, invoke, builtin, hd, hs, hrun, Result.andThen]
  exact hK _ _ (h _ (by rw [List.append_assoc]))

theorem flat_len : ∀ (vss : List (List Value)), (∀ ws ∈ vss, ws.length = 5) → (flat vss).length = vss.length * 5
  | [], _ => rfl
  | ws :: vss, h => by
    have h1 := h ws (by simp)
    have h2 := flat_len vss fun x hx => h x (by simp [hx])
    simp only [flat, List.flatten_cons, List.length_append, List.length_cons] at h2 ⊢
    omega
theorem flat_take : ∀ (vss : List (List Value)) (i : Nat), (∀ ws ∈ vss, ws.length = 5) → (flat vss).take (i * 5) = flat (vss.take i) ∧ (flat vss).drop (i * 5) = flat (vss.drop i)
  | [], i, _ => by simp [flat]
  | ws :: vss, 0, _ => by simp [flat]
  | ws :: vss, i + 1, h => by
    have h1 := h ws (by simp)
    obtain ⟨h2, h3⟩ := flat_take vss i fun x hx => h x (by simp [hx])
    simp only [flat, List.flatten_cons, List.take_succ_cons, List.drop_succ_cons] at h2 h3 ⊢
    rw [show (i + 1) * 5 = ws.length + i * 5 by omega, List.take_length_add_append, List.drop_length_add_append, h2, h3]
    exact ⟨rfl, rfl⟩
theorem FxQ.one {w : World} {ok : Nat → Prop} {vs : List Value} {x : Fx} (h : FxQ w ok vs x) : ∀ u ∈ vs, u.oneCell' = true := by
  obtain ⟨ib, ic, A, pc, rfl, _⟩ := h
  intro u hu
  simp at hu
  rcases hu with rfl | rfl | rfl | rfl | rfl <;> rfl
theorem TiV.ones {w : World} {base ti : Nat} {fs : List Fx} {v : Value} {vss : List (List Value)} (h : TiV w base ti fs v vss) : ∀ u ∈ flat vss, u.oneCell' = true := by
  intro u hu
  obtain ⟨ws, hw, hu⟩ := List.mem_flatten.1 hu
  obtain ⟨i, hi, rfl⟩ := List.mem_iff_getElem.1 hw
  have h2 : i < fs.length := by rw [← h.len]; exact hi
  exact (h.rows i _ _ (List.getElem?_eq_getElem hi) (List.getElem?_eq_getElem h2)).one u hu

theorem TiV.below {w w' : World} {base ti : Nat} {fs : List Fx} {v : Value} {vss : List (List Value)} (h : TiV w base ti fs v vss) (hb : Below w.heap.size w w') : TiV w' base ti fs v vss :=
  ⟨(World.cell?_of_block (hb.block ti (lt_cell h.c1))).trans h.c1, (World.frozen?_of_block (hb.block ti (lt_cell h.c1))).trans h.nf, ownG_below h.own hb, h.len, fun i vs x h1 h2 => (h.rows i vs x h1 h2).keep fun b hl ho => ⟨ho, hb.block b hl⟩, h.far⟩
/-- The error that two paths conflict. -/
def TagE (w : World) (eb typ : Nat) : Prop := w.cell? ⟨eb, 0, none⟩ = some (.pointer (some ⟨typ, 0, none⟩)) ∧ ∀ k, 1 ≤ k → k < 5 → ∃ s, w.cell? ⟨eb, k, none⟩ = some (.string s)
theorem TagE.new (w : World) (typ : Nat) (a b c d : ByteArray) (t : TypeId) : TagE (w.alloc (.cells #[.pointer (some ⟨typ, 0, none⟩), .string a, .string b, .string c, .string d] t)) w.heap.size typ := by
  have h : ∀ k v, (#[Value.pointer (some ⟨typ, 0, none⟩), .string a, .string b, .string c, .string d] : Array Value)[k]? = some v → (w.alloc (.cells #[.pointer (some ⟨typ, 0, none⟩), .string a, .string b, .string c, .string d] t)).cell? ⟨w.heap.size, k, none⟩ = some v := fun k v e => by
    simp only [World.cell?, heap_alloc_new]
    simpa using e
  refine ⟨h 0 _ rfl, fun k h1 h2 => ?_⟩
  obtain rfl | rfl | rfl | rfl : k = 1 ∨ k = 2 ∨ k = 3 ∨ k = 4 := by omega
  · exact ⟨_, h 1 _ rfl⟩
  · exact ⟨_, h 2 _ rfl⟩
  · exact ⟨_, h 3 _ rfl⟩
  · exact ⟨_, h 4 _ rfl⟩
/-- What addFieldInfo leaves. -/
structure AddPost (w : World) (base typ ti : Nat) (L : List Fx) (v : Value) (new : Fx) (e : Ending) (w' : World) : Prop where
  ext : Ext (fun k => k = ti ∨ v.ownBlock = some k) w w'
  c0 : w'.cell? ⟨ti, 0, none⟩ = w.cell? ⟨ti, 0, none⟩
  f0 : w'.frozen? ⟨ti, 0, none⟩ = w.frozen? ⟨ti, 0, none⟩
  ok : ∀ L', addFx L new = some L' → e = .returned .nilIface ∧ ∃ v' vss', TiV w' base ti L' v' vss' ∧ ∀ g, v'.ownBlock = some g → v.ownBlock = some g ∨ w.heap.size ≤ g
  err : addFx L new = none → ∃ eb, e = .returned (.iface 90 (.pointer (some ⟨eb, 0, none⟩))) ∧ w.heap.size ≤ eb ∧ TagE w' eb typ
/-- One more. -/
theorem TiV.push {w w9 w10 : World} {base ti g cap : Nat} {fs : List Fx} {v : Value} {vss : List (List Value)} {new : Fx} {vs : List Value} (h : TiV w base ti fs v vss) (hti : ti < w.heap.size)
    (hn : FxQ w (fun b => b ≠ ti ∧ v.ownBlock ≠ some b) vs new)
    (h9 : w9.ownsRow base 85 5 (.slice (some ⟨g, 0, none⟩) (fs.length + 1) cap) (fs.length + 1) (flat vss ++ vs))
    (hk : ∀ k, k < w.heap.size → v.ownBlock ≠ some k → k ≠ ti → w9.heap[k]? = w.heap[k]?) (hat : v.ownBlock = some g ∨ w.heap.size ≤ g)
    (h10 : ∀ k, k ≠ ti → w10.heap[k]? = w9.heap[k]?) (hc : w10.cell? ⟨ti, 1, none⟩ = some (.slice (some ⟨g, 0, none⟩) (fs.length + 1) cap)) (hf : w10.frozen? ⟨ti, 1, none⟩ = false) :
    TiV w10 base ti (fs ++ [new]) (.slice (some ⟨g, 0, none⟩) (fs.length + 1) cap) (vss ++ [vs]) := by
  have hg : g ≠ ti := by
    rcases hat with hat | hat
    · intro e
      exact h.far (by rw [hat, e])
    · omega
  have hfx : ∀ (ws : List Value) (x : Fx), FxQ w (fun b => b ≠ ti ∧ v.ownBlock ≠ some b) ws x → FxQ w10 (fun b => b ≠ ti ∧ (Value.slice (some ⟨g, 0, none⟩) (fs.length + 1) cap).ownBlock ≠ some b) ws x := fun ws x hx => hx.keep fun b hb ⟨h1, h2⟩ => by
    refine ⟨⟨h1, fun e => ?_⟩, (h10 b h1).trans (hk b hb h2 h1)⟩
    have e : g = b := by simpa [Value.ownBlock] using e
    subst e
    rcases hat with hat | hat
    · exact h2 hat
    · omega
  refine ⟨hc, hf, ?_, by simp [h.len], fun i ws x h1 h2 => ?_, fun e => hg (by simpa [Value.ownBlock] using e)⟩
  · have := ownG_kept h9 (w' := w10) fun k e => h10 k (by rintro rfl; exact hg (by simpa [Value.ownBlock] using e))
    simpa [flat] using this
  · rcases Nat.lt_or_ge i vss.length with h3 | h3
    · rw [List.getElem?_append_left h3] at h1
      rw [List.getElem?_append_left (by rw [← h.len]; exact h3)] at h2
      exact hfx ws x (h.rows i ws x h1 h2)
    · rw [List.getElem?_append_right h3] at h1
      rw [List.getElem?_append_right (by rw [← h.len]; exact h3), ← h.len] at h2
      have h4 : i - vss.length = 0 := by
        have := (List.getElem?_eq_some_iff.1 h1).1
        simp at this
        omega
      rw [h4] at h1 h2
      simp at h1 h2
      subst h1 h2
      exact hfx _ _ hn

theorem AddPost.push {w wr w9 w10 : World} {base typ ti g cap : Nat} {L K : List Fx} {v vK : Value} {vss : List (List Value)} {new : Fx} {vs : List Value} (hx : Ext (fun k => k = ti ∨ v.ownBlock = some k) w wr)
    (hc0 : wr.cell? ⟨ti, 0, none⟩ = w.cell? ⟨ti, 0, none⟩) (hf0 : wr.frozen? ⟨ti, 0, none⟩ = w.frozen? ⟨ti, 0, none⟩) (hT : TiV wr base ti K vK vss) (hvk : vK.ownBlock = v.ownBlock) (hti : ti < w.heap.size) (hfar : v.ownBlock ≠ some ti)
    (hN : FxQ wr (fun b => b ≠ ti ∧ v.ownBlock ≠ some b) vs new) (hap : addFx L new = some (K ++ [new]))
    (h9 : w9.ownsRow base 85 5 (.slice (some ⟨g, 0, none⟩) (K.length + 1) cap) (K.length + 1) (flat vss ++ vs)) (hx9 : Ext (fun k => v.ownBlock = some k) wr w9) (hat : v.ownBlock = some g ∨ wr.heap.size ≤ g)
    (h10 : Ext (fun k => k = ti) w9 w10) (c0 : w10.cell? ⟨ti, 0, none⟩ = w9.cell? ⟨ti, 0, none⟩) (f0 : w10.frozen? ⟨ti, 0, none⟩ = w9.frozen? ⟨ti, 0, none⟩)
    (hc : w10.cell? ⟨ti, 1, none⟩ = some (.slice (some ⟨g, 0, none⟩) (K.length + 1) cap)) (hf : w10.frozen? ⟨ti, 1, none⟩ = false) (hg9 : g < w9.heap.size) : AddPost w base typ ti L v new (.returned .nilIface) w10 := by
  have hti9 : w9.heap[ti]? = wr.heap[ti]? := hx9.block ti (Nat.lt_of_lt_of_le hti hx.size) hfar
  have hgt : g ≠ ti := by
    rintro rfl
    rcases hat with e | e
    · exact hfar e
    · have := hx.size
      omega
  refine ⟨(hx.trans (hx9.mono fun k _ e => .inr e)).trans (h10.mono fun k _ e => .inl e), c0.trans ((World.cell?_of_block hti9).trans hc0), f0.trans ((World.frozen?_of_block hti9).trans hf0), fun L' e => ?_, fun e => by rw [hap] at e; cases e⟩
  rw [hap] at e
  obtain rfl := Option.some.inj e
  refine ⟨rfl, _, _, TiV.push (w9 := { w9 with heap := w10.heap }) hT (Nat.lt_of_lt_of_le hti hx.size) (by rw [hvk]; exact hN) (ownG_kept h9 fun k e => ?_) (fun k hk hn hkt => ?_) (by rw [hvk]; exact hat) (fun k _ => rfl) hc hf, fun k e => ?_⟩
  · have e : g = k := by simpa [Value.ownBlock] using e
    subst e
    exact h10.block g hg9 hgt
  · rw [hvk] at hn
    exact (h10.block k (Nat.lt_of_lt_of_le hk hx9.size) hkt).trans (hx9.block k hk hn)
  · have e : g = k := by simpa [Value.ownBlock] using e
    subst e
    rcases hat with e | e
    · exact .inl e
    · exact .inr (Nat.le_trans hx.size e)
theorem ext_grown {V w9 : World} {o : Obj} {row : Option Nat} (hg : (V.alloc o).drew.grownBy w9 row) : Ext (fun k => row = some k) V w9 :=
  ⟨hg.os, hg.tape, hg.output, by have := hg.size; simp [World.drew] at this; omega, fun k hk hn => (hg.block k (by simp [World.drew]; omega) (fun e => hn e.symm)).trans (Below.heap_alloc V o k hk)⟩
/-- The end of both ways that append. -/
theorem AddPost.pushed {w wr w9 : World} {o : Obj} {base typ ti g cap : Nat} {L K : List Fx} {v vK : Value} {vss : List (List Value)} {new : Fx} {vs : List Value} (hx : Ext (fun k => k = ti ∨ v.ownBlock = some k) w wr)
    (hc0 : wr.cell? ⟨ti, 0, none⟩ = w.cell? ⟨ti, 0, none⟩) (hf0 : wr.frozen? ⟨ti, 0, none⟩ = w.frozen? ⟨ti, 0, none⟩) (hT : TiV wr base ti K vK vss) (hvk : vK.ownBlock = v.ownBlock) (hti : ti < w.heap.size) (hfar : v.ownBlock ≠ some ti)
    (hN : FxQ wr (fun b => b ≠ ti ∧ v.ownBlock ≠ some b) vs new) (hap : addFx L new = some (K ++ [new]))
    (h9 : w9.ownsRow base 85 5 (.slice (some ⟨g, 0, none⟩) (K.length + 1) cap) (K.length + 1) (flat vss ++ vs)) (hg9 : (wr.alloc o).drew.grownBy w9 vK.ownBlock) (hat : vK.ownBlock = some g ∨ g = (wr.alloc o).drew.heap.size) (hlt : g < w9.heap.size) :
    AddPost w base typ ti L v new (.returned .nilIface) (w9.setCell ⟨ti, 1, none⟩ (.slice (some ⟨g, 0, none⟩) (K.length + 1) cap)) := by
  have hx9 := ext_grown hg9
  have hti9 : w9.heap[ti]? = wr.heap[ti]? := hx9.block ti (Nat.lt_of_lt_of_le hti hx.size) (by rw [hvk]; exact hfar)
  refine AddPost.push hx hc0 hf0 hT hvk hti hfar hN hap h9 (hx9.mono fun k _ e => by rw [← hvk]; exact e) ?_ (Ext.setCell (S := fun k => k = ti) w9 rfl _) (World.cell?_setCell_other _ _ _ _ (fun e => by injection e with e1 e2; cases e2)) (World.frozen?_setCell _ _ _ _)
    (World.cell?_setCell_same _ _ _ ((World.cell?_of_block hti9).trans hT.c1)) ((World.frozen?_setCell _ _ _ _).trans ((World.frozen?_of_block hti9).trans hT.nf)) hlt
  rcases hat with e | e
  · exact .inl (by rw [← hvk]; exact e)
  · right
    rw [e]
    simp [World.drew]
theorem AddPost.same {w w' : World} {base typ ti : Nat} {L : List Fx} {v : Value} {vss : List (List Value)} {new : Fx} (hT : TiV w base ti L v vss) (hap : addFx L new = some L) (hb : Below w.heap.size w w') : AddPost w base typ ti L v new (.returned .nilIface) w' := by
  have hti := hb.block ti (lt_cell hT.c1)
  refine ⟨(Ext.of_below hb).mono (S := fun _ => False) fun k _ e => e.elim, World.cell?_of_block hti, World.frozen?_of_block hti, fun L' e => ?_, fun e => by rw [hap] at e; cases e⟩
  rw [hap] at e
  obtain rfl := Option.some.inj e
  exact ⟨rfl, v, vss, hT.below hb, fun g e => .inl e⟩
theorem AddPost.bad {w w' : World} {base typ ti eb : Nat} {L : List Fx} {v : Value} {vss : List (List Value)} {new : Fx} (hT : TiV w base ti L v vss) (hap : addFx L new = none) (hb : Below w.heap.size w w') (he : w.heap.size ≤ eb) (hE : TagE w' eb typ) :
    AddPost w base typ ti L v new (.returned (.iface 90 (.pointer (some ⟨eb, 0, none⟩)))) w' := by
  have hti := hb.block ti (lt_cell hT.c1)
  exact ⟨(Ext.of_below hb).mono (S := fun _ => False) fun k _ e => e.elim, World.cell?_of_block hti, World.frozen?_of_block hti, (fun L' e => by rw [hap] at e; cases e), fun _ => ⟨eb, rfl, he, hE⟩⟩

theorem eraseIdx_flat (vss : List (List Value)) (i : Nat) (h : ∀ ws ∈ vss, ws.length = 5) : flat (vss.eraseIdx i) = (flat vss).take (i * 5) ++ (flat vss).drop ((i + 1) * 5) := by
  rw [List.eraseIdx_eq_take_drop_succ, (flat_take vss i h).1, (flat_take vss (i + 1) h).2]
  simp [flat]
theorem eraseIdx_get {α : Type} (l : List α) (i j : Nat) : (l.eraseIdx i)[j]? = if j < i then l[j]? else l[j + 1]? := by
  rw [List.getElem?_eraseIdx]
/-- One less. -/
theorem TiV.erase {w w2 : World} {base ti g cap i : Nat} {K : List Fx} {vss : List (List Value)} (h : TiV w base ti K (.slice (some ⟨g, 0, none⟩) K.length cap) vss) (hi : i < K.length)
    {cur : Array Value} (hg : w.heap[g]? = some (.cells cur 85 (0, 0)))
    (hg2 : w2.heap[g]? = some (.cells (cur.toList.take (i * 5) ++ (flat vss).drop ((i + 1) * 5) ++ cur.toList.drop (i * 5 + ((flat vss).drop ((i + 1) * 5)).length)).toArray 85 (0, 0)))
    (hk : ∀ k, k < w.heap.size → k ≠ g → k ≠ ti → w2.heap[k]? = w.heap[k]?)
    (hc : w2.cell? ⟨ti, 1, none⟩ = some (.slice (some ⟨g, 0, none⟩) (K.length - 1) cap)) (hf : w2.frozen? ⟨ti, 1, none⟩ = false) :
    TiV w2 base ti (K.eraseIdx i) (.slice (some ⟨g, 0, none⟩) (K.length - 1) cap) (vss.eraseIdx i) := by
  have hl := h.len
  have hle : (vss.eraseIdx i).length = (K.eraseIdx i).length := by rw [List.length_eraseIdx, List.length_eraseIdx, hl]
  have hkl : (K.eraseIdx i).length = K.length - 1 := by rw [List.length_eraseIdx, if_pos hi]
  have hfl := flat_len vss h.lens
  obtain ⟨hxl, hown⟩ := h.own
  rcases hown with ⟨e, _⟩ | ⟨g', cap', cur', e, hb, hg', hn, hm, hs, ht⟩
  · cases e
  · injection e with e1 _ e3
    injection e1 with e1
    injection e1 with e1
    subst e1 e3
    rw [hg] at hg'
    injection hg' with hg'
    injection hg' with hg'
    subst hg'
    refine ⟨hc, hf, ⟨?_, .inr ⟨g, cap, _, by rw [hkl], hb, hg2, by rw [hkl]; omega, hm, ?_, ?_⟩⟩, hle, fun j ws x h1 h2 => ?_, h.far⟩
    · rw [flat_len _ (fun x hx => h.lens x (List.eraseIdx_subset hx)), hle]
    · have : cur.toList.length = cap * 5 := by simpa using hs
      simp only [List.size_toArray, List.length_append, List.length_take, List.length_drop, this, hfl]
      have : K.length * 5 ≤ cap * 5 := Nat.mul_le_mul_right 5 hn
      omega
    · have hcl : cur.toList.length = cap * 5 := by simpa using hs
      have h5 : K.length * 5 ≤ cap * 5 := Nat.mul_le_mul_right 5 hn
      have hti : cur.toList.take (i * 5) = (flat vss).take (i * 5) := by
        rw [← ht, List.take_take, Nat.min_eq_left (by omega)]
      have hlen : ((flat vss).take (i * 5) ++ (flat vss).drop ((i + 1) * 5)).length = (K.eraseIdx i).length * 5 := by
        rw [List.length_append, List.length_take, List.length_drop, hfl, hkl]
        omega
      rw [eraseIdx_flat vss i h.lens]
      simp only []
      rw [hti, ← hlen, List.take_left']
      rfl
    · have hkp : ∀ (ws : List Value) (x : Fx), FxQ w (fun b => b ≠ ti ∧ (Value.slice (some ⟨g, 0, none⟩) K.length cap).ownBlock ≠ some b) ws x → FxQ w2 (fun b => b ≠ ti ∧ (Value.slice (some ⟨g, 0, none⟩) (K.length - 1) cap).ownBlock ≠ some b) ws x := fun ws x hx => hx.keep fun b hb ⟨h1, h2⟩ => by
        have hbg : b ≠ g := fun e => h2 (by rw [e]; rfl)
        exact ⟨⟨h1, h2⟩, hk b hb hbg h1⟩
      rw [eraseIdx_get] at h1 h2
      split at h1
      · rename_i hj
        rw [if_pos hj] at h2
        exact hkp ws x (h.rows j ws x h1 h2)
      · rename_i hj
        rw [if_neg hj] at h2
        exact hkp ws x (h.rows (j + 1) ws x h1 h2)
theorem under80 : Tryz.prog.underlying 80 = some (.slice (Tryz.prog.elem 80)) := by kernel_rfl
theorem size80 (w : World) : (sizeOf (Tryz.prog.elem 80)).run Tryz.prog w = .ok 5 w := by kernel_rfl
/-- Where a row's rest begins. -/
def restAt (g i c : Nat) : Addr := if c = i then ⟨g, 0, none⟩ else ⟨g, i * 5, none⟩
theorem run_rest (g n c i : Nat) (hi : i + 1 ≤ n) (W : World) : (Instr.slice 80 (.slice (some ⟨g, 0, none⟩) n c) (some (.int .i64 ((i : Int) + 1))) none none).run Tryz.prog W = .ok (.slice (some (restAt g (i + 1) c)) (n - (i + 1)) (c - (i + 1))) W := by
  rw [run_slice_l (P := Tryz.prog) W 80 _ n c under80 .i64 ((i : Int) + 1) (by omega) (by omega), size80]
  simp only [Result.andThen, sliced, restAt]
  have e : ((i : Int) + 1).toNat = i + 1 := by omega
  rw [e]
  split
  · rfl
  · simp [Addr.add]
theorem run_from (g n c i : Nat) (hi : i < n) (hc : n ≤ c) (W : World) : (Instr.slice 80 (.slice (some ⟨g, 0, none⟩) n c) (some (.int .i64 (i : Int))) none none).run Tryz.prog W = .ok (.slice (some ⟨g, i * 5, none⟩) (n - i) (c - i)) W := by
  rw [run_slice_l (P := Tryz.prog) W 80 _ n c under80 .i64 (i : Int) (by omega) (by omega), size80]
  simp only [Result.andThen, sliced, Int.toNat_natCast]
  rw [if_neg (by omega)]
  have e : (⟨g, 0, none⟩ : Addr).add (i * 5) = ⟨g, i * 5, none⟩ := by unfold Addr.add; split <;> simp_all
  simp only [Option.map_some, e]
theorem run_front (g n c : Nat) (hn : 1 ≤ n) (hc : n ≤ c) (W : World) : (Instr.slice 80 (.slice (some ⟨g, 0, none⟩) n c) none (some (.int .i64 ((n : Int) - 1))) none).run Tryz.prog W = .ok (.slice (some ⟨g, 0, none⟩) (n - 1) c) W := by
  rw [run_slice_h (P := Tryz.prog) W 80 _ n c under80 .i64 ((n : Int) - 1) (by omega) (by omega), size80]
  simp only [Result.andThen, sliced]
  have e : ((n : Int) - 1).toNat = n - 1 := by omega
  rw [e]
  split
  · rfl
  · simp [Addr.add]
end Go.Proofs.YtnmgocbmofbppaaGreatDoor
namespace Go.Proofs.YtnmgocbmofbppaaGreatDoor
open Go.RowKit

section
variable {tg : ByteArray → ByteArray} {ex : ByteArray → Bool} {l : AL Ty} {r : List Fl → Except Bool Ti}
theorem gtiGo_append : ∀ (us bs : List Fl) (i : Nat) (acc : Ti), gtiGo tg ex l r (us ++ bs) i acc = match gtiGo tg ex l r us i acc with
    | .error e => .error e
    | .ok acc' => gtiGo tg ex l r bs (i + us.length) acc'
  | [], bs, i, acc => by simp [gtiGo]
  | a :: us, bs, i, acc => by
    simp only [List.cons_append, gtiGo]
    cases h : gtiStep tg ex l r i a acc with
    | error e => rfl
    | ok a2 =>
      simp only [gtiGo_append us bs (i + 1) a2, List.length_cons]
      rw [show i + 1 + us.length = i + (us.length + 1) by omega]
theorem gtiGo_split {fs : List Fl} {i : Nat} {f : Fl} {acc0 acc : Ti} (hf : fs[i]? = some f) (h : gtiGo tg ex l r (fs.take i) 0 acc0 = .ok acc) :
    gtiGo tg ex l r fs 0 acc0 = match gtiStep tg ex l r i f acc with
      | .error e => .error e
      | .ok acc' => gtiGo tg ex l r (fs.drop (i + 1)) (i + 1) acc' := by
  have hi : i < fs.length := (List.getElem?_eq_some_iff.1 hf).1
  conv => lhs; rw [← List.take_append_drop i fs]
  rw [gtiGo_append, h]
  have hl : (fs.take i).length = i := by rw [List.length_take]; omega
  have hd : fs.drop i = f :: fs.drop (i + 1) := by
    rw [List.drop_eq_getElem_cons hi]
    congr 1
    rw [List.getElem?_eq_getElem hi] at hf
    exact Option.some.inj hf
  simp only [hl, Nat.zero_add, hd, gtiGo]
  cases gtiStep tg ex l r i f acc <;> rfl
theorem gtiGo_err {fs : List Fl} {i : Nat} {f : Fl} {acc0 acc : Ti} {b : Bool} (hf : fs[i]? = some f) (h : gtiGo tg ex l r (fs.take i) 0 acc0 = .ok acc) (h2 : gtiStep tg ex l r i f acc = .error b) : gtiGo tg ex l r fs 0 acc0 = .error b := by
  rw [gtiGo_split hf h, h2]
theorem gtiGo_snoc {fs : List Fl} {i : Nat} {f : Fl} {acc0 acc acc' : Ti} (hf : fs[i]? = some f) (h : gtiGo tg ex l r (fs.take i) 0 acc0 = .ok acc) (h2 : gtiStep tg ex l r i f acc = .ok acc') : gtiGo tg ex l r (fs.take (i + 1)) 0 acc0 = .ok acc' := by
  have hi : i < fs.length := (List.getElem?_eq_some_iff.1 hf).1
  rw [take_snoc hf, gtiGo_append, h]
  have hl : (fs.take i).length = i := by rw [List.length_take]; omega
  simp only [hl, Nat.zero_add, gtiGo, h2]
end
theorem addAll_append : ∀ (us bs fs : List Fx), addAll fs (us ++ bs) = match addAll fs us with
    | none => none
    | some fs' => addAll fs' bs
  | [], bs, fs => by simp [addAll]
  | a :: us, bs, fs => by
    simp only [List.cons_append, addAll]
    cases h : addFx fs a with
    | none => rfl
    | some f2 => exact addAll_append us bs f2
theorem addAll_snoc {fs fs' : List Fx} {xs : List Fx} {j : Nat} {x : Fx} (hx : xs[j]? = some x) (h : addAll fs (xs.take j) = some fs') : addAll fs (xs.take (j + 1)) = addFx fs' x := by
  rw [take_snoc hx, addAll_append, h]
  simp only [addAll]
  cases addFx fs' x <;> rfl
theorem addAll_err {fs fs' : List Fx} {xs : List Fx} {j : Nat} {x : Fx} (hx : xs[j]? = some x) (h : addAll fs (xs.take j) = some fs') (h2 : addFx fs' x = none) : addAll fs xs = none := by
  have h3 := addAll_snoc hx h
  rw [h2] at h3
  rw [← List.take_append_drop (j + 1) xs, addAll_append, h3]
/-- What is added comes from what is there, or is the new one; there is one more at most. -/
theorem addFx_mem {fs fs' : List Fx} {x : Fx} (h : addFx fs x = some fs') : (∀ y ∈ fs', y ∈ fs ∨ y = x) ∧ fs'.length ≤ fs.length + 1 ∧ fs' ≠ [] := by
  unfold addFx at h
  simp only at h
  split at h
  · obtain rfl := Option.some.inj h
    refine ⟨fun y hy => ?_, by simp, by simp⟩
    simpa using hy
  · rename_i hc
    split at h
    · obtain rfl := Option.some.inj h
      refine ⟨fun y hy => .inl hy, by omega, fun e => hc (by rw [e]; rfl)⟩
    · split at h
      · cases h
      · obtain rfl := Option.some.inj h
        have hl : (fs.filter fun o => !confl o.fi x.fi).length ≤ fs.length := List.length_filter_le _ _
        refine ⟨fun y hy => ?_, by simp; omega, by simp⟩
        simp only [List.mem_append, List.mem_singleton] at hy
        rcases hy with hy | hy
        · exact .inl (List.mem_filter.1 hy).1
        · exact .inr hy
theorem addAll_mem : ∀ (xs fs fs' : List Fx), addAll fs xs = some fs' → (∀ y ∈ fs', y ∈ fs ∨ y ∈ xs) ∧ fs'.length ≤ fs.length + xs.length
  | [], fs, fs', h => by
    simp only [addAll, Option.some.injEq] at h
    subst h
    exact ⟨fun y hy => .inl hy, by simp⟩
  | x :: xs, fs, fs', h => by
    simp only [addAll] at h
    cases h1 : addFx fs x with
    | none => rw [h1] at h; cases h
    | some f2 =>
      rw [h1] at h
      obtain ⟨h2, h3, _⟩ := addFx_mem h1
      obtain ⟨h4, h5⟩ := addAll_mem xs f2 fs' h
      refine ⟨fun y hy => ?_, by simp; omega⟩
      rcases h4 y hy with h6 | h6
      · rcases h2 y h6 with h7 | h7
        · exact .inl h7
        · exact .inr (by simp [h7])
      · exact .inr (by simp [h6])

/-- A struct has so many fields, through embedded structs, at a depth. -/
def Cn (l : AL Ty) : Nat → List Fl → Nat → Prop
  | 0, _, _ => False
  | n + 1, fs, c => ∃ cs : List Nat, cs.length = fs.length ∧ c = 1 + cs.length + cs.sum ∧ ∀ (j : Nat) (f : Fl) (d : Nat), fs[j]? = some f → cs[j]? = some d → f.emb = true → (envT l f.name).kind = 13 → Cn l n (envT l f.name).fields d
theorem Cn.mono {l : AL Ty} : ∀ {n m : Nat} {fs : List Fl} {c : Nat}, n ≤ m → Cn l n fs c → Cn l m fs c
  | 0, _, _, _, _, h => h.elim
  | n + 1, 0, _, _, hm, _ => by omega
  | n + 1, m + 1, fs, c, hm, ⟨cs, h1, h2, h3⟩ => ⟨cs, h1, h2, fun j f d h4 h5 h6 h7 => Cn.mono (by omega) (h3 j f d h4 h5 h6 h7)⟩
theorem Cn.deep {l : AL Ty} : ∀ {n : Nat} {fs : List Fl} {c : Nat}, Cn l n fs c → Deep l n fs
  | 0, _, _, h => h.elim
  | n + 1, fs, c, ⟨cs, h1, h2, h3⟩ => fun f hf he hk => by
    obtain ⟨j, hj, rfl⟩ := List.mem_iff_getElem.1 hf
    exact Cn.deep (h3 j _ _ (List.getElem?_eq_getElem hj) (List.getElem?_eq_getElem (by omega : j < cs.length)) he hk)
/-- The numbers of ways give it. -/
def CnQ (l : AL Ty) (T : Ty) (c : Nat) : Prop :=
  (T.kind = 13 → (∀ f ∈ T.fields, embOk f) → ∃ d, d ≤ c ∧ Cn l c T.fields d) ∧
  (T.kind = 14 → (envT l T.s).kind = 13 → ∃ d, d ≤ c ∧ Cn l c (envT l T.s).fields d) ∧
  (T.kind = 12 → ∀ t ∈ T.of, t.kind = 14 → (envT l t.s).kind = 13 → ∃ d, d ≤ c ∧ Cn l c (envT l t.s).fields d)
theorem list_choose {α : Type} {P : Nat → α → Nat → Prop} : ∀ (fs : List α) (bs : List Nat) (k : Nat), bs.length = fs.length → (∀ (j : Nat) (f : α) (b : Nat), fs[j]? = some f → bs[j]? = some b → ∃ d, d ≤ b ∧ P (k + j) f d) →
    ∃ ds : List Nat, ds.length = fs.length ∧ ds.sum ≤ bs.sum ∧ ∀ (j : Nat) (f : α) (d : Nat), fs[j]? = some f → ds[j]? = some d → P (k + j) f d
  | [], bs, k, h, _ => ⟨[], rfl, by simp, fun j f d h1 => by simp at h1⟩
  | f :: fs, [], k, h, _ => by simp at h
  | f :: fs, b :: bs, k, h, hp => by
    obtain ⟨d, h1, h2⟩ := hp 0 f b rfl rfl
    obtain ⟨ds, h3, h4, h5⟩ := list_choose fs bs (k + 1) (by simpa using h) fun j g b' hj hb => by
      have := hp (j + 1) g b' (by simpa using hj) (by simpa using hb)
      rwa [show k + (j + 1) = k + 1 + j by omega] at this
    refine ⟨d :: ds, by simp [h3], by simp; omega, fun j g e hj he => ?_⟩
    cases j with
    | zero =>
      simp at hj he
      subst hj he
      exact h2
    | succ j =>
      have := h5 j g e (by simpa using hj) (by simpa using he)
      rwa [show k + 1 + j = k + (j + 1) by omega] at this
theorem cnQ_of {l : AL Ty} (hE : ∀ s, (envT l s).kind = 13 → ∀ f ∈ (envT l s).fields, embOk f) {T : Ty} {c : Nat} (h : WaysC l T c) : CnQ l T c := by
  induction h with
  | @named n s of fs c _ ih =>
    refine ⟨fun h => absurd h (by show (14 : Int) ≠ 13; decide), fun _ hk => ?_, fun h => absurd h (by show (14 : Int) ≠ 12; decide)⟩
    obtain ⟨d, h1, h2⟩ := ih.1 hk (hE s hk)
    exact ⟨d, by omega, h2.mono (by omega)⟩
  | @ptr n s t fs c _ ih =>
    refine ⟨fun h => absurd h (by show (12 : Int) ≠ 13; decide), fun h => absurd h (by show (12 : Int) ≠ 14; decide), fun _ t' ht' hk he => ?_⟩
    have : t' = t := by simpa [Ty.of] using ht'
    subst this
    obtain ⟨d, h1, h2⟩ := ih.2.1 hk he
    exact ⟨d, by omega, h2.mono (by omega)⟩
  | @struct n s of fs cs hl _ ih =>
    refine ⟨fun _ hem => ?_, fun h => absurd h (by show (13 : Int) ≠ 14; decide), fun h => absurd h (by show (13 : Int) ≠ 12; decide)⟩
    have hem : ∀ f ∈ fs, embOk f := hem
    obtain ⟨ds, h1, h2, h3⟩ := list_choose (P := fun _ f d => f.emb = true → (envT l f.name).kind = 13 → Cn l (cs.length + cs.sum) (envT l f.name).fields d) fs cs 0 hl fun j f b hj hb => by
      by_cases hc : f.emb = true ∧ (envT l f.name).kind = 13
      · have hq := ih j f b hj hb hc.1
        have hs := sum_mem cs j b hb
        rcases (hem f (List.mem_of_getElem? hj)).2 hc.1 with ⟨n', of', fs', ht⟩ | ⟨n', s', fs', n2, of2, fs2, ht⟩
        · rw [ht] at hq
          obtain ⟨d, q1, q2⟩ := hq.2.1 rfl hc.2
          exact ⟨d, q1, fun _ _ => q2.mono (by omega)⟩
        · rw [ht] at hq
          obtain ⟨d, q1, q2⟩ := hq.2.2 rfl (.mk 14 n2 f.name of2 fs2) (by simp [Ty.of]) rfl hc.2
          exact ⟨d, q1, fun _ _ => q2.mono (by omega)⟩
      · exact ⟨0, Nat.zero_le _, fun e1 e2 => absurd ⟨e1, e2⟩ hc⟩
    rw [show 1 + cs.length + cs.sum = (cs.length + cs.sum) + 1 by omega]
    refine ⟨1 + ds.length + ds.sum, by omega, ds, h1, rfl, fun j f d hj hd => ?_⟩
    exact h3 j f d hj hd
  | other h12 h13 h14 => exact ⟨fun h => absurd h h13, fun h => absurd h h14, fun h => absurd h h12⟩

theorem take_sum (cs : List Nat) (i d : Nat) (h : cs[i]? = some d) : (cs.take (i + 1)).sum = (cs.take i).sum + d := by
  rw [take_snoc h]
  simp
theorem take_sum_le (cs : List Nat) (i : Nat) : (cs.take i).sum ≤ cs.sum := by
  conv => rhs; rw [← List.take_append_drop i cs]
  rw [List.sum_append]
  omega
/-- What a prefix of the fields gives. -/
structure PreOk (l : AL Ty) (fs : List Fl) (cs : List Nat) (c i : Nat) (acc : Ti) : Prop where
  len : acc.fs.length ≤ i + (cs.take i).sum
  path : ∀ x ∈ acc.fs, PathOk l fs x.idx ∧ x.idx.length ≤ c
  ne : ∀ x ∈ acc.fs, x.idx ≠ []
theorem path_cons {l : AL Ty} {fs : List Fl} {f : Fl} {i : Nat} {p : List Nat} (hf : fs[i]? = some f) (he : f.emb = true) (hk : (envT l f.name).kind = 13) (hp : PathOk l (envT l f.name).fields p) : PathOk l fs (i :: p) := by
  cases p with
  | nil => exact hp.elim
  | cons y r => exact ⟨f, hf, he, hk, hp⟩
theorem path_one {l : AL Ty} {fs : List Fl} {i : Nat} (h : i < fs.length) : PathOk l fs [i] := h
section
variable {tg : ByteArray → ByteArray} {ex : ByteArray → Bool} {l : AL Ty}
/-- What holds of all that an embedded struct gives. -/
def InOk (l : AL Ty) (fs : List Fl) (d : Nat) (t : Ti) : Prop := t.fs.length ≤ d ∧ ∀ x ∈ t.fs, PathOk l fs x.idx ∧ x.idx.length ≤ d ∧ x.idx ≠ []
theorem PreOk.step {r : List Fl → Except Bool Ti} {fs : List Fl} {cs : List Nat} {c i d : Nat} {f : Fl} {acc acc' : Ti} (h : PreOk l fs cs c i acc) (hf : fs[i]? = some f) (hd : cs[i]? = some d) (hc : d < c) (hc0 : 1 ≤ c)
    (hr : f.emb = true → (envT l f.name).kind = 13 → ∀ t, r (envT l f.name).fields = .ok t → InOk l (envT l f.name).fields d t) (hs : gtiStep tg ex l r i f acc = .ok acc') : PreOk l fs cs c (i + 1) acc' := by
  have hi : i < fs.length := (List.getElem?_eq_some_iff.1 hf).1
  have hsum := take_sum cs i d hd
  have hl := h.len
  unfold gtiStep at hs
  split at hs
  · injection hs with hs
    subst hs
    exact ⟨by rw [hsum]; omega, h.path, h.ne⟩
  · split at hs
    · rename_i hemb
      cases h1 : r (envT l f.name).fields with
      | error b => rw [h1] at hs; cases hs
      | ok inner =>
        obtain ⟨h2, h3⟩ := hr hemb.1 hemb.2 inner h1
        rw [h1] at hs
        simp only at hs
        cases h4 : addAll acc.fs (inner.fs.map fun x => ⟨x.fi, i :: x.idx⟩) with
        | none => rw [h4] at hs; cases hs
        | some fs' =>
          rw [h4] at hs
          injection hs with hs
          subst hs
          obtain ⟨h5, h6⟩ := addAll_mem _ _ _ h4
          simp at h6
          refine ⟨by rw [hsum]; show fs'.length ≤ _; omega, fun x hx => ?_, fun x hx => ?_⟩
          · rcases h5 x hx with h7 | h7
            · exact h.path x h7
            · obtain ⟨y, hy, rfl⟩ := List.mem_map.1 h7
              obtain ⟨h8, h9, _⟩ := h3 y hy
              exact ⟨path_cons hf hemb.1 hemb.2 h8, by simp; omega⟩
          · rcases h5 x hx with h7 | h7
            · exact h.ne x h7
            · obtain ⟨y, hy, rfl⟩ := List.mem_map.1 h7
              simp
    · cases h1 : sfi tg (lkOf tg (bare f.t l)) f.name f.tag with
      | none => rw [h1] at hs; cases hs
      | some fi =>
        rw [h1] at hs
        simp only at hs
        split at hs
        · injection hs with hs
          subst hs
          exact ⟨by rw [hsum]; show acc.fs.length ≤ _; omega, h.path, h.ne⟩
        · cases h2 : addFx acc.fs ⟨fi, [i]⟩ with
          | none => rw [h2] at hs; cases hs
          | some fs' =>
            rw [h2] at hs
            injection hs with hs
            subst hs
            obtain ⟨h5, h6, _⟩ := addFx_mem h2
            refine ⟨by rw [hsum]; show fs'.length ≤ _; omega, fun x hx => ?_, fun x hx => ?_⟩
            · rcases h5 x hx with h7 | h7
              · exact h.path x h7
              · subst h7
                exact ⟨path_one hi, by simpa using hc0⟩
            · rcases h5 x hx with h7 | h7
              · exact h.ne x h7
              · subst h7
                simp
theorem gti_ok : ∀ {n c : Nat} {fs : List Fl} {t : Ti}, Cn l n fs c → gti tg ex l n fs = .ok t → InOk l fs c t
  | 0, _, _, _, h, _ => h.elim
  | n + 1, c, fs, t, ⟨cs, h1, h2, h3⟩, h => by
    have main : ∀ i acc, i ≤ fs.length → gtiGo tg ex l (gti tg ex l n) (fs.take i) 0 ⟨none, []⟩ = .ok acc → PreOk l fs cs c i acc := by
      intro i
      induction i with
      | zero =>
        intro acc _ h
        simp only [List.take_zero, gtiGo] at h
        injection h with h
        subst h
        exact ⟨by simp, fun x hx => by simp at hx, fun x hx => by simp at hx⟩
      | succ i ih =>
        intro acc hi h
        obtain ⟨f, hf⟩ : ∃ f, fs[i]? = some f := ⟨_, List.getElem?_eq_getElem (by omega)⟩
        obtain ⟨d, hd⟩ : ∃ d, cs[i]? = some d := ⟨_, List.getElem?_eq_getElem (by omega)⟩
        have hs := sum_mem cs i d hd
        rw [take_snoc hf, gtiGo_append] at h
        cases h4 : gtiGo tg ex l (gti tg ex l n) (fs.take i) 0 ⟨none, []⟩ with
        | error b => rw [h4] at h; cases h
        | ok a2 =>
          rw [h4] at h
          have hl : (fs.take i).length = i := by rw [List.length_take]; omega
          simp only [hl, Nat.zero_add, gtiGo] at h
          cases h5 : gtiStep tg ex l (gti tg ex l n) i f a2 with
          | error b => rw [h5] at h; cases h
          | ok a3 =>
            rw [h5] at h
            injection h with h
            subst h
            exact (ih a2 (by omega) h4).step hf hd (by omega) (by omega) (fun he hk t ht => gti_ok (h3 i f d hf hd he hk) ht) h5
    have hm := main fs.length t (Nat.le_refl _) (by rw [List.take_length]; exact h)
    have hts := take_sum_le cs fs.length
    exact ⟨by have := hm.len; omega, fun x hx => ⟨(hm.path x hx).1, (hm.path x hx).2, hm.ne x hx⟩⟩
/-- The same of a prefix. -/
theorem gti_pre {n c : Nat} {fs : List Fl} {cs : List Nat} (h1 : cs.length = fs.length) (h2 : c = 1 + cs.length + cs.sum) (h3 : ∀ (j : Nat) (f : Fl) (d : Nat), fs[j]? = some f → cs[j]? = some d → f.emb = true → (envT l f.name).kind = 13 → Cn l n (envT l f.name).fields d) :
    ∀ i acc, i ≤ fs.length → gtiGo tg ex l (gti tg ex l n) (fs.take i) 0 ⟨none, []⟩ = .ok acc → PreOk l fs cs c i acc := by
  intro i
  induction i with
  | zero =>
    intro acc _ h
    simp only [List.take_zero, gtiGo] at h
    injection h with h
    subst h
    exact ⟨by simp, fun x hx => by simp at hx, fun x hx => by simp at hx⟩
  | succ i ih =>
    intro acc hi h
    obtain ⟨f, hf⟩ : ∃ f, fs[i]? = some f := ⟨_, List.getElem?_eq_getElem (by omega)⟩
    obtain ⟨d, hd⟩ : ∃ d, cs[i]? = some d := ⟨_, List.getElem?_eq_getElem (by omega)⟩
    have hs := sum_mem cs i d hd
    rw [take_snoc hf, gtiGo_append] at h
    cases h4 : gtiGo tg ex l (gti tg ex l n) (fs.take i) 0 ⟨none, []⟩ with
    | error b => rw [h4] at h; cases h
    | ok a2 =>
      rw [h4] at h
      have hl : (fs.take i).length = i := by rw [List.length_take]; omega
      simp only [hl, Nat.zero_add, gtiGo] at h
      cases h5 : gtiStep tg ex l (gti tg ex l n) i f a2 with
      | error b => rw [h5] at h; cases h
      | ok a3 =>
        rw [h5] at h
        injection h with h
        subst h
        exact (ih a2 (by omega) h4).step hf hd (by omega) (by omega) (fun he hk t ht => gti_ok (h3 i f d hf hd he hk) ht) h5
end
end Go.Proofs.YtnmgocbmofbppaaGreatDoor
namespace Go.Proofs.YtnmgocbmofbppaaGreatDoor
open Go.RowKit

/-- The rules of a struct's fields, whatever the fuel. -/
def Rules (tg : ByteArray → ByteArray) (ex : ByteArray → Bool) (l : AL Ty) (fs : List Fl) (t : Ti) : Prop := ∃ n, Deep l n fs ∧ gti tg ex l n fs = .ok t
theorem Rules.fuel {tg : ByteArray → ByteArray} {ex : ByteArray → Bool} {l : AL Ty} {fs : List Fl} {t : Ti} (h : Rules tg ex l fs t) {n : Nat} (hn : Deep l n fs) : gti tg ex l n fs = .ok t := by
  obtain ⟨m, h1, h2⟩ := h
  rw [← h2]
  exact gti_fuel hn h1
/-- Info of a block: nil, or the rules of its fields. -/
def InfoB (tg : ByteArray → ByteArray) (ex : ByteArray → Bool) (l : AL Ty) (w : World) (ok : Nat → Prop) (fs : List Fl) (b : Nat) : Prop :=
  w.frozen? ⟨b, 7, none⟩ = false ∧ (w.cell? ⟨b, 7, none⟩ = some .nilIface ∨ ∃ ti t, w.cell? ⟨b, 7, none⟩ = some (.iface 76 (.pointer (some ⟨ti, 0, none⟩))) ∧ InfoV w ok ti t ∧ Rules tg ex l fs t)
/-- Info of all named structs. -/
def InfoAll (tg : ByteArray → ByteArray) (ex : ByteArray → Bool) (l : AL Ty) (am : Am) (w : World) (ok : Nat → Prop) : Prop :=
  ∀ s b, am s = some b → (envT l s).kind = 13 → InfoB tg ex l w ok (envT l s).fields b
/-- An error of getTypeInfo; c: two paths conflict. -/
def GErr (n0 : Nat) (am : Am) (n1 : Nat) (w : World) (c : Bool) (v : Value) : Prop :=
  ∃ eb, n1 ≤ eb ∧ match c with
    | true => v = .iface 90 (.pointer (some ⟨eb, 0, none⟩)) ∧ ∃ ty T, TagE w eb ty ∧ Ty.wf T ∧ T.sz ≤ 2000 ∧ RT w (Fr n0 w am) am T ty
    | false => v = .iface 154 (.pointer (some ⟨eb, 0, none⟩)) ∧ ∃ s, w.cell? ⟨eb, 0, none⟩ = some (.string s)
/-- What getTypeInfo leaves. -/
structure GtiPost (tg : ByteArray → ByteArray) (ex : ByteArray → Bool) (l : AL Ty) (n0 : Nat) (am : Am) (ok : Nat → Prop) (n : Nat) (fs : List Fl) (y : Nat) (w : World) (e : Ending) (w' : World) : Prop where
  nx : NX (fun k => Nm am k ∨ k = y) w w'
  info : InfoAll tg ex l am w' fun b => ok b ∨ w.heap.size ≤ b
  res : ∀ t, gti tg ex l n fs = .ok t → ∃ ti, e = .returned (.tuple #[.pointer (some ⟨ti, 0, none⟩), .nilIface]) ∧ InfoV w' (fun b => ok b ∨ w.heap.size ≤ b) ti t
  err : ∀ c, gti tg ex l n fs = .error c → NX (Nm am) w w' ∧ ∃ p v, e = .returned (.tuple #[.pointer p, v]) ∧ GErr n0 am w.heap.size w' c v

section
variable {tg : ByteArray → ByteArray} {ex : ByteArray → Bool} {l : AL Ty} {n0 : Nat} {am : Am} {ok ok' : Nat → Prop} {w w' wr : World}
theorem InfoB.keep {fs : List Fl} {b : Nat} (h : InfoB tg ex l w ok fs b) (k : Kp ok ok' w w') (h7 : w'.cell? ⟨b, 7, none⟩ = w.cell? ⟨b, 7, none⟩) (hf : w'.frozen? ⟨b, 7, none⟩ = w.frozen? ⟨b, 7, none⟩) : InfoB tg ex l w' ok' fs b := by
  refine ⟨hf.trans h.1, ?_⟩
  rcases h.2 with h1 | ⟨ti, t, h1, h2, h3⟩
  · exact .inl (h7.trans h1)
  · exact .inr ⟨ti, t, h7.trans h1, h2.keep k, h3⟩
theorem InfoAll.keep (h : InfoAll tg ex l am w ok) (k : Kp ok ok' w w') (hb : ∀ b, Nm am b → b < w.heap.size → w'.heap[b]? = w.heap[b]?) : InfoAll tg ex l am w' ok' := fun s b e hk => by
  have hi := h s b e hk
  have hl : b < w.heap.size := by
    rcases hi.2 with h1 | ⟨ti, t, h1, _⟩ <;> exact lt_cell h1
  have hbb := hb b ⟨s, e⟩ hl
  exact hi.keep k (World.cell?_of_block hbb) (World.frozen?_of_block hbb)

/-- The blocks that finished rules may lie in, while a type's own are under way: block w's size has them, v is their slice. -/
def OkR (ok : Nat → Prop) (w : World) (v : Value) (b : Nat) : Prop := (ok b ∧ b < w.heap.size ∨ w.heap.size < b) ∧ v.ownBlock ≠ some b
/-- The state of a type's rules under way. -/
structure TSt (tg : ByteArray → ByteArray) (ex : ByteArray → Bool) (l : AL Ty) (n0 : Nat) (am : Am) (ok : Nat → Prop) (w wr : World) (xn : Option Fx) (L : List Fx) (v : Value) : Prop where
  nx : NX (Nm am) w wr
  c0 : ∃ p, wr.cell? ⟨w.heap.size, 0, none⟩ = some (.pointer p) ∧ XnV wr (OkR ok w v) p xn
  f0 : wr.frozen? ⟨w.heap.size, 0, none⟩ = false
  ti : ∃ vss, TiV wr (w.heap.size + 1) w.heap.size L v vss
  nil : v = .slice none 0 0 ∨ L ≠ []
  info : InfoAll tg ex l am wr (OkR ok w v)
  gnm : GNm n0 wr am l
section
variable {xn : Option Fx} {L : List Fx} {v : Value}
theorem TSt.lt (h : TSt tg ex l n0 am ok w wr xn L v) : w.heap.size < wr.heap.size := by
  obtain ⟨p, h1, _⟩ := h.c0
  exact lt_cell h1
theorem TSt.own (h : TSt tg ex l n0 am ok w wr xn L v) {g : Nat} (e : v.ownBlock = some g) : w.heap.size < g ∧ g < wr.heap.size := by
  obtain ⟨vss, h1⟩ := h.ti
  have := h1.own.lt g e
  omega
theorem TSt.notNm (h : TSt tg ex l n0 am ok w wr xn L v) (hw : ∀ b, Nm am b → b < w.heap.size) {b : Nat} (hb : Nm am b) : b ≠ w.heap.size ∧ v.ownBlock ≠ some b := by
  have := hw b hb
  refine ⟨by omega, fun e => ?_⟩
  have := h.own e
  omega
/-- Neither of the two blocks is plain. -/
theorem TSt.notPlain (h : TSt tg ex l n0 am ok w wr xn L v) (b : Nat) (hb : b = w.heap.size ∨ v.ownBlock = some b) : ¬ Plain wr b := by
  rcases hb with rfl | hb
  · obtain ⟨p, h1, _⟩ := h.c0
    rintro (⟨z, hz⟩ | ⟨s, hs⟩)
    · rw [h1] at hz; cases hz
    · rw [h1] at hs; cases hs
  · obtain ⟨vss, hT⟩ := h.ti
    rcases h.nil with hn | hn
    · rw [hn] at hb; cases hb
    · obtain ⟨x, hx⟩ : ∃ x, L[0]? = some x := ⟨_, List.getElem?_eq_getElem (List.length_pos_iff.2 hn)⟩
      obtain ⟨g, cap, ib, ic, A, pc, hv, _, ⟨h0, _⟩, _⟩ := hT.at_ hx
      rw [hv] at hb
      have hb : g = b := by simpa [Value.ownBlock] using hb
      subst hb
      rw [Nat.zero_mul] at h0
      rintro (⟨z, hz⟩ | ⟨s, hs⟩)
      · rw [h0] at hz; cases hz
      · rw [h0] at hs; cases hs
/-- Rows that are kept: rules whose blocks are plain. -/
theorem TiV.keepR {base ti : Nat} {vss : List (List Value)} (h : TiV w base ti L v vss) (hp : ∀ b, Plain w b → w'.heap[b]? = w.heap[b]?) (h1 : w'.cell? ⟨ti, 1, none⟩ = w.cell? ⟨ti, 1, none⟩) (h2 : w'.frozen? ⟨ti, 1, none⟩ = w.frozen? ⟨ti, 1, none⟩)
    (h3 : ∀ g, v.ownBlock = some g → w'.heap[g]? = w.heap[g]?) : TiV w' base ti L v vss := by
  refine ⟨h1.trans h.c1, h2.trans h.nf, ownG_kept h.own h3, h.len, fun i vs x e1 e2 => ?_, h.far⟩
  have hq := h.rows i vs x e1 e2
  have hq2 := hq.plain
  -- both: the blocks are plain, and apart
  obtain ⟨ib, ic, A, pc, q1, q2, q3, q4, q5, q6, q7⟩ := hq
  obtain ⟨ib', ic', A', pc', r1, r2, r3, _, _, _, r7⟩ := hq2
  rw [q1] at r1
  injection r1 with s1 r1
  injection s1 with s1
  injection s1 with s1
  injection s1 with s1
  injection r1 with _ r1
  injection r1 with _ r1
  injection r1 with _ r1
  injection r1 with r1 _
  injection r1 with r1
  subst s1 r1
  refine ⟨ib, ic, A, pc, q1, q2, fun j y e => (World.cell?_of_block (hp ib r2)).trans (q3 j y e), q4, q5, q6, fun j y e => ?_⟩
  obtain ⟨g, t1, t2, t3⟩ := q7 j y e
  obtain ⟨g', u1, u2, u3⟩ := r7 j y e
  rw [t1] at u1
  injection u1 with u1
  injection u1 with u1
  subst u1
  exact ⟨g, t1, t2, (World.cell?_of_block (hp g u2)).trans t3⟩

/-- New memory, nothing else. -/
theorem TSt.below (h : TSt tg ex l n0 am ok w wr xn L v) (hb : Below wr.heap.size wr w') : TSt tg ex l n0 am ok w w' xn L v := by
  have hk : Kp (OkR ok w v) (OkR ok w v) wr w' := Kp.below hb fun _ _ e => e
  obtain ⟨p, h1, h2⟩ := h.c0
  obtain ⟨vss, h3⟩ := h.ti
  have hlt := h.lt
  exact ⟨h.nx.trans (NX.of_below hb), ⟨p, (World.cell?_of_block (hb.block _ hlt)).trans h1, h2.keep hk⟩, (World.frozen?_of_block (hb.block _ hlt)).trans h.f0, ⟨vss, h3.below hb⟩, h.nil, h.info.keep hk (fun b _ hl => hb.block b hl), h.gnm.keep (Ext.of_below hb)⟩
/-- An embedded struct's rules have been made. -/
theorem TSt.nest (h : TSt tg ex l n0 am ok w wr xn L v) (hw : ∀ b, Nm am b → b < w.heap.size) (hok : ∀ b, ok b → ¬ Nm am b) (hx : NX (Nm am) wr w') (hi : InfoAll tg ex l am w' fun b => OkR ok w v b ∨ wr.heap.size ≤ b) :
    TSt tg ex l n0 am ok w w' xn L v ∧ ∀ b, (OkR ok w v b ∨ wr.heap.size ≤ b) → OkR ok w v b := by
  have hlt := h.lt
  have himp : ∀ b, (OkR ok w v b ∨ wr.heap.size ≤ b) → OkR ok w v b := fun b hb => by
    rcases hb with hb | hb
    · exact hb
    · refine ⟨.inr (by omega), fun e => ?_⟩
      have := h.own e
      omega
  have hnn : ∀ b, OkR ok w v b → ¬ Nm am b := fun b hb hn => by
    rcases hb.1 with h1 | h1
    · exact hok b h1.1 hn
    · have := hw b hn
      omega
  have hk : Kp (OkR ok w v) (OkR ok w v) wr w' := Kp.of_ext hx.ext hnn (fun b hb => h.gnm.typed.notPlain b hb) fun _ _ e => e
  obtain ⟨p, h1, h2⟩ := h.c0
  obtain ⟨vss, h3⟩ := h.ti
  have hti : w'.heap[w.heap.size]? = wr.heap[w.heap.size]? := hx.ext.block _ hlt fun hn => by
    have := hw _ hn
    omega
  refine ⟨⟨h.nx.trans hx, ⟨p, (World.cell?_of_block hti).trans h1, h2.keep hk⟩, (World.frozen?_of_block hti).trans h.f0, ⟨vss, h3.keepR hk.pl (World.cell?_of_block hti) (World.frozen?_of_block hti) fun g e => ?_⟩, h.nil, ?_, h.gnm.keepX hx⟩, himp⟩
  · have := h.own e
    exact hx.ext.block g this.2 fun hn => by
      have := hw _ hn
      omega
  · intro s b e hk13
    have := hi s b e hk13
    refine this.keep (w' := w') ⟨fun b' _ hb' => ⟨himp b' hb', rfl⟩, fun _ _ => rfl⟩ rfl rfl
/-- NX of an early world holds on where only later blocks turn. -/
theorem NX.late {S S2 : Nat → Prop} (h : NX S w wr) (hx : Ext S2 wr w') (h2 : ∀ k, S2 k → w.heap.size ≤ k) : NX S w w' := by
  have hs := h.ext.size
  have hb : ∀ k, k < w.heap.size → w'.heap[k]? = wr.heap[k]? := fun k hk => hx.block k (by omega) fun e => by have := h2 k e; omega
  exact ⟨⟨hx.os.trans h.ext.os, hx.tape.trans h.ext.tape, hx.output.trans h.ext.output, Nat.le_trans hs hx.size, fun k hk hn => (hb k hk).trans (h.ext.block k hk hn)⟩, fun k i hk hl hi => (World.cell?_of_block (hb k hl)).trans (h.cell k i hk hl hi), fun k i hk hl => (World.frozen?_of_block (hb k hl)).trans (h.fz k i hk hl)⟩
/-- The two blocks turn: what finished rules are read from does not. -/
theorem TSt.kp (h : TSt tg ex l n0 am ok w wr xn L v) {v' : Value} (hx : Ext (fun k => k = w.heap.size ∨ v.ownBlock = some k) wr w') (hv : ∀ g, v'.ownBlock = some g → v.ownBlock = some g ∨ wr.heap.size ≤ g) : Kp (OkR ok w v) (OkR ok w v') wr w' := by
  refine Kp.of_ext hx (fun b hb => ?_) h.notPlain fun b hl hb => ⟨hb.1, fun e => ?_⟩
  · rintro (e | e)
    · subst e
      rcases hb.1 with h1 | h1 <;> omega
    · exact hb.2 e
  · rcases hv b e with h1 | h1
    · exact hb.2 h1
    · omega
theorem TSt.late (h : TSt tg ex l n0 am ok w wr xn L v) (hx : Ext (fun k => k = w.heap.size ∨ v.ownBlock = some k) wr w') : NX (Nm am) w w' :=
  h.nx.late hx fun k hk => by
    rcases hk with rfl | e
    · omega
    · have := h.own e
      omega
theorem TSt.infoLate (h : TSt tg ex l n0 am ok w wr xn L v) (hw : ∀ b, Nm am b → b < w.heap.size) {v' : Value} (hx : Ext (fun k => k = w.heap.size ∨ v.ownBlock = some k) wr w') (hv : ∀ g, v'.ownBlock = some g → v.ownBlock = some g ∨ wr.heap.size ≤ g) : InfoAll tg ex l am w' (OkR ok w v') :=
  h.info.keep (h.kp hx hv) fun b hn hl => hx.block b hl fun e => by
    obtain ⟨h1, h2⟩ := h.notNm hw hn
    rcases e with e | e
    · exact h1 e
    · exact h2 e
/-- The name's rules are set. -/
theorem TSt.xml (h : TSt tg ex l n0 am ok w wr xn L v) (hG : GNm n0 w am l) (hw : ∀ b, Nm am b → b < w.heap.size) {p : Option Addr} {xn' : Option Fx} (hp : XnV wr (OkR ok w v) p xn') : TSt tg ex l n0 am ok w (wr.setCell ⟨w.heap.size, 0, none⟩ (.pointer p)) xn' L v := by
  have hx : Ext (fun k => k = w.heap.size ∨ v.ownBlock = some k) wr (wr.setCell ⟨w.heap.size, 0, none⟩ (.pointer p)) := (Ext.setCell (S := fun k => k = w.heap.size) wr rfl _).mono fun k _ e => .inl e
  have hk := h.kp hx (v' := v) fun g e => .inl e
  obtain ⟨p0, h1, _⟩ := h.c0
  obtain ⟨vss, h3⟩ := h.ti
  have hnx := h.late hx
  refine ⟨hnx, ⟨p, World.cell?_setCell_same _ _ _ h1, hp.keep hk⟩, (World.frozen?_setCell _ _ _ _).trans h.f0, ⟨vss, h3.keepR hk.pl (World.cell?_setCell_other _ _ _ _ (fun e => by injection e with e1 e2; cases e2)) (World.frozen?_setCell _ _ _ _) fun g e => ?_⟩, h.nil, h.infoLate hw hx fun g e => .inl e, hG.keepX hnx⟩
  exact Below.heap_setCell wr _ _ g (by have := h.own e; show g ≠ w.heap.size; omega)
/-- A field has been added. -/
theorem TSt.add (h : TSt tg ex l n0 am ok w wr xn L v) (hG : GNm n0 w am l) (hw : ∀ b, Nm am b → b < w.heap.size) {y : Nat} {new : Fx} {L' : List Fx} {e : Ending} (ha : AddPost wr (w.heap.size + 1) y w.heap.size L v new e w') (hL : addFx L new = some L') :
    e = .returned .nilIface ∧ ∃ v', TSt tg ex l n0 am ok w w' xn L' v' ∧ Kp (OkR ok w v) (OkR ok w v') wr w' := by
  obtain ⟨he, v', vss', hT, hv⟩ := ha.ok L' hL
  have hk := h.kp ha.ext hv
  obtain ⟨p, h1, h2⟩ := h.c0
  have hnx := h.late ha.ext
  exact ⟨he, v', ⟨hnx, ⟨p, ha.c0.trans h1, h2.keep hk⟩, ha.f0.trans h.f0, ⟨vss', hT⟩, .inr (addFx_mem hL).2.2, h.infoLate hw ha.ext hv, hG.keepX hnx⟩, hk⟩
/-- The start. -/
theorem TSt.start (hG : GNm n0 w am l) (hi : InfoAll tg ex l am w ok) (t : TypeId) : TSt tg ex l n0 am ok w (w.alloc (.cells #[.pointer none, .slice none 0 0] t)) none [] (.slice none 0 0) := by
  have hb : Below w.heap.size w (w.alloc (.cells #[.pointer none, .slice none 0 0] t)) := (Below.refl _ _).alloc (Nat.le_refl _) _
  have hc : ∀ (k : Nat) (u : Value), (#[Value.pointer none, Value.slice none 0 0] : Array Value)[k]? = some u → (w.alloc (.cells #[.pointer none, .slice none 0 0] t)).cell? ⟨w.heap.size, k, none⟩ = some u := fun k u e => by
    simp only [World.cell?, heap_alloc_new]
    simpa using e
  have hf : ∀ k, (w.alloc (.cells #[.pointer none, .slice none 0 0] t)).frozen? ⟨w.heap.size, k, none⟩ = false := fun k => by
    simp only [World.frozen?, heap_alloc_new]
    simp
  refine ⟨NX.of_below hb, ⟨none, hc 0 _ rfl, rfl⟩, hf 0, ⟨[], hc 1 _ rfl, hf 1, World.ownsRow_nil _ _ _ _, rfl, fun i vs x e => by simp at e, fun e => by cases e⟩, .inl rfl, ?_, hG.keep (Ext.of_below hb)⟩
  exact hi.keep (Kp.below hb fun b hl ho => ⟨.inl ⟨ho, hl⟩, fun e => by cases e⟩) fun b _ hl => hb.block b hl
theorem tuple_inj {a b a' b' : Value} (h : Ending.returned (.tuple #[a, b]) = Ending.returned (.tuple #[a', b'])) : a = a' ∧ b = b' := by
  injection h with h
  injection h with h
  simpa using h
theorem GtiPost.form {n : Nat} {fs : List Fl} {y : Nat} {e : Ending} (h : GtiPost tg ex l n0 am ok n fs y w e w') : ∃ p ev, e = .returned (.tuple #[.pointer p, ev]) := by
  cases hg : gti tg ex l n fs with
  | error c =>
    obtain ⟨_, p, v, he, _⟩ := h.err c hg
    exact ⟨p, v, he⟩
  | ok t =>
    obtain ⟨ti, he, _⟩ := h.res t hg
    exact ⟨_, _, he⟩
/-- An error. -/
theorem TSt.bad {y n : Nat} {fs : List Fl} {c : Bool} {ev : Value} {p : Option Addr} (h : TSt tg ex l n0 am ok w w' xn L v) (hr : gti tg ex l n fs = .error c) (he : GErr n0 am w.heap.size w' c ev) : GtiPost tg ex l n0 am ok n fs y w (.returned (.tuple #[.pointer p, ev])) w' := by
  refine ⟨h.nx.mono fun k _ e => .inl e, fun s b e hk => ?_, (fun t ht => by rw [hr] at ht; cases ht), fun c' hc' => ?_⟩
  · refine (h.info s b e hk).keep ⟨fun b' hl hb' => ⟨?_, rfl⟩, fun _ _ => rfl⟩ rfl rfl
    rcases hb'.1 with h1 | h1
    · exact .inl h1.1
    · exact .inr (by omega)
  · rw [hr] at hc'
    injection hc' with hc'
    subst hc'
    exact ⟨h.nx, p, ev, rfl, he⟩
theorem TSt.bad2 {y n : Nat} {fs : List Fl} {c : Bool} {ev : Value} {p : Option Addr} (h : TSt tg ex l n0 am ok w wr xn L v) (hw : ∀ b, Nm am b → b < w.heap.size) (hx : Ext (fun k => k = w.heap.size ∨ v.ownBlock = some k) wr w') (hr : gti tg ex l n fs = .error c) (he : GErr n0 am w.heap.size w' c ev) :
    GtiPost tg ex l n0 am ok n fs y w (.returned (.tuple #[.pointer p, ev])) w' := by
  have hnx := h.late hx
  refine ⟨hnx.mono fun k _ e => .inl e, fun s b e hk => ?_, (fun t ht => by rw [hr] at ht; cases ht), fun c' hc' => ?_⟩
  · refine ((h.infoLate hw hx (v' := v) fun g e => .inl e) s b e hk).keep ⟨fun b' hl hb' => ⟨?_, rfl⟩, fun _ _ => rfl⟩ rfl rfl
    rcases hb'.1 with h1 | h1
    · exact .inl h1.1
    · exact .inr (by omega)
  · rw [hr] at hc'
    injection hc' with hc'
    subst hc'
    exact ⟨hnx, p, ev, rfl, he⟩
theorem GErr.mono {n1 n2 : Nat} {c : Bool} {ev : Value} (h : GErr n0 am n1 w c ev) (hn : n2 ≤ n1) : GErr n0 am n2 w c ev := by
  obtain ⟨eb, h1, h2⟩ := h
  exact ⟨eb, by omega, h2⟩
theorem GErr.form {n1 : Nat} {c : Bool} {ev : Value} (h : GErr n0 am n1 w c ev) : ∃ k eb, ev = .iface k (.pointer (some ⟨eb, 0, none⟩)) := by
  obtain ⟨eb, h1, h2⟩ := h
  cases c with
  | true => exact ⟨90, eb, h2.1⟩
  | false => exact ⟨154, eb, h2.1⟩
/-- The end: Info is written. -/
theorem TSt.done {y : Nat} {n : Nat} {fs : List Fl} {t : Ti} (h : TSt tg ex l n0 am ok w wr t.xn t.fs v) (hok : ∀ b, ok b → ¬ Nm am b ∧ b ≠ y) (hy : ∃ K, w.cell? ⟨y, 0, none⟩ = some (.int .u8 K)) (hr : gti tg ex l n fs = .ok t) (hd : Deep l n fs)
    (hn : ∀ s, am s = some y → (envT l s).fields = fs) (h7 : ∃ u, wr.cell? ⟨y, 7, none⟩ = some u) (hf7 : wr.frozen? ⟨y, 7, none⟩ = false) :
    GtiPost tg ex l n0 am ok n fs y w (.returned (.tuple #[.pointer (some ⟨w.heap.size, 0, none⟩), .nilIface])) (wr.setCell ⟨y, 7, none⟩ (.iface 76 (.pointer (some ⟨w.heap.size, 0, none⟩)))) := by
  obtain ⟨K, hK⟩ := hy
  have hyl : y < w.heap.size := lt_cell hK
  have hlt := h.lt
  have hyr : ∃ K, wr.cell? ⟨y, 0, none⟩ = some (.int .u8 K) := by
    by_cases hyn : Nm am y
    · exact ⟨K, (h.nx.cell y 0 hyn hyl (by decide)).trans hK⟩
    · exact ⟨K, (World.cell?_of_block (h.nx.ext.block y hyl hyn)).trans hK⟩
  obtain ⟨Kr, hKr⟩ := hyr
  have hx : Ext (fun k => k = y) wr (wr.setCell ⟨y, 7, none⟩ (.iface 76 (.pointer (some ⟨w.heap.size, 0, none⟩)))) := Ext.setCell (S := fun k => k = y) wr rfl _
  have hkk : Kp (OkR ok w v) (fun b => ok b ∨ w.heap.size ≤ b) wr (wr.setCell ⟨y, 7, none⟩ (.iface 76 (.pointer (some ⟨w.heap.size, 0, none⟩)))) := by
    refine Kp.of_ext hx (fun b hb e => ?_) (fun b hb hp => ?_) fun b _ hb => ?_
    · subst e
      rcases hb.1 with h1 | h1
      · exact (hok b h1.1).2 rfl
      · omega
    · have hb : b = y := hb
      subst hb
      rcases hp with ⟨z, hz⟩ | ⟨s, hs⟩
      · rw [hKr] at hz; cases hz
      · rw [hKr] at hs; cases hs
    · rcases hb.1 with h1 | h1
      · exact .inl h1.1
      · exact .inr (by omega)
  have hinf : InfoV (wr.setCell ⟨y, 7, none⟩ (.iface 76 (.pointer (some ⟨w.heap.size, 0, none⟩)))) (fun b => ok b ∨ w.heap.size ≤ b) w.heap.size t := by
    obtain ⟨p, h1, h2⟩ := h.c0
    obtain ⟨vss, hT⟩ := h.ti
    have hblk : (wr.setCell ⟨y, 7, none⟩ (.iface 76 (.pointer (some ⟨w.heap.size, 0, none⟩)))).heap[w.heap.size]? = wr.heap[w.heap.size]? := Below.heap_setCell wr _ _ _ (by show w.heap.size ≠ y; omega)
    refine ⟨.inr (Nat.le_refl _), ⟨p, (World.cell?_of_block hblk).trans h1, h2.keep hkk⟩, ?_⟩
    rcases hT.own.2 with ⟨hv, h0⟩ | ⟨g, cap, cur, hv, hb, hg, _⟩
    · refine ⟨none, 0, (World.cell?_of_block hblk).trans ?_, fun i x e => ?_⟩
      · rw [h0]
        exact hv ▸ hT.c1
      · have := (List.getElem?_eq_some_iff.1 e).1
        omega
    · refine ⟨some ⟨g, 0, none⟩, cap, (World.cell?_of_block hblk).trans (hv ▸ hT.c1), fun i x e => ⟨g, rfl, .inr (by omega), ?_⟩⟩
      obtain ⟨g', cap', ib, ic, A, pc, hv', _, ⟨c0, c1, c2, c3, c4⟩, hq⟩ := hT.at_ e
      rw [hv] at hv'
      injection hv' with e1 _ _
      injection e1 with e1
      injection e1 with e1
      subst e1
      have hgb : (wr.setCell ⟨y, 7, none⟩ (.iface 76 (.pointer (some ⟨w.heap.size, 0, none⟩)))).heap[g]? = wr.heap[g]? := Below.heap_setCell wr _ _ _ (by show g ≠ y; omega)
      have hfa : FxAt wr g (i * 5) x := ⟨_, hq.plain, fun k u e => by
        match k with
        | 0 => simp at e; subst e; exact c0
        | 1 => simp at e; subst e; exact c1
        | 2 => simp at e; subst e; exact c2
        | 3 => simp at e; subst e; exact c3
        | 4 => simp at e; subst e; exact c4
        | k + 5 => simp at e⟩
      exact hfa.keep hkk.pl hgb
  obtain ⟨u7, hu7⟩ := h7
  refine ⟨?_, fun s b e hk13 => ?_, fun t' ht' => ?_, fun c hc => by rw [hr] at hc; cases hc⟩
  · exact (h.nx.mono fun k _ e => .inl e).trans (NX.info wr _ (.inr rfl))
  · by_cases hby : b = y
    · subst hby
      refine ⟨(World.frozen?_setCell _ _ _ _).trans hf7, .inr ⟨_, t, World.cell?_setCell_same _ _ _ hu7, hinf, n, ?_⟩⟩
      rw [hn s e]
      exact ⟨hd, hr⟩
    · have hbb := Below.heap_setCell wr ⟨y, 7, none⟩ (.iface 76 (.pointer (some ⟨w.heap.size, 0, none⟩))) b hby
      exact (h.info s b e hk13).keep hkk (World.cell?_of_block hbb) (World.frozen?_of_block hbb)
  · rw [hr] at ht'
    injection ht' with ht'
    subst ht'
    exact ⟨_, rfl, hinf⟩
end
end
end Go.Proofs.YtnmgocbmofbppaaGreatDoor
