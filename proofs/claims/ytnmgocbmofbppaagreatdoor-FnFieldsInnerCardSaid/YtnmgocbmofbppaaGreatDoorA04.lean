/- byName. The state in fields's loop. -/
import Derived.Test.YtnmgocbmofbppaaGreatDoorA03
import Derived.KernelRfl
import Derived.Outline
import Derived.BigGuardPart
import Derived.Deep.DeepMust
import Derived.Deep.LoopGhost
import Derived.Deep.DeepCutAuto
import Derived.Deep.CutBlock
import Derived.Deep.QuietTactic
import Derived.BigQuiet
import Derived.Lib.Hide
import Derived.WalkSpells
import Derived.Deep.Light
import Derived.Deep.RegionWith
import Derived.WalkLawsBesides
import Derived.StillTailTactics
import Derived.Deep.AppendLies

set_option linter.unusedVariables false
set_option linter.unusedSimpArgs false

namespace Go.Proofs.YtnmgocbmofbppaaGreatDoor
open Go.RowKit

theorem zero55 (w : World) : (zeroValue 55).run Tryz.prog w = .ok (.pointer none) w := by kernel_rfl
theorem heap_set_here {w : World} {x i : Nat} {cs : Array Value} {t : TypeId} {fz : Nat × Nat} {v : Value} (h : w.heap[x]? = some (.cells cs t fz)) : (w.setCell ⟨x, i, none⟩ v).heap[x]? = some (.cells (cs.setIfInBounds i v) t fz) := by
  simp [World.setCell, Array.getElem?_modify, h]
theorem copied {w : World} {x : Nat} {o0 o1 o2 o3 o4 o5 o6 o7 a0 a1 a2 a3 a4 a5 a6 a7 s : Value} {t : TypeId} (h : w.heap[x]? = some (.cells #[o0, o1, o2, o3, o4, o5, o6, o7] t)) :
    (((((((((w.setCell ⟨x, 0, none⟩ a0).setCell ⟨x, 1, none⟩ a1).setCell ⟨x, 2, none⟩ a2).setCell ⟨x, 3, none⟩ a3).setCell ⟨x, 4, none⟩ a4).setCell ⟨x, 5, none⟩ a5).setCell ⟨x, 6, none⟩ a6).setCell ⟨x, 7, none⟩ a7).setCell ⟨x, 1, none⟩ s).heap[x]? = some (.cells #[a0, s, a2, a3, a4, a5, a6, a7] t) ∧
    Ext (· = x) w (((((((((w.setCell ⟨x, 0, none⟩ a0).setCell ⟨x, 1, none⟩ a1).setCell ⟨x, 2, none⟩ a2).setCell ⟨x, 3, none⟩ a3).setCell ⟨x, 4, none⟩ a4).setCell ⟨x, 5, none⟩ a5).setCell ⟨x, 6, none⟩ a6).setCell ⟨x, 7, none⟩ a7).setCell ⟨x, 1, none⟩ s) ∧
    (((((((((w.setCell ⟨x, 0, none⟩ a0).setCell ⟨x, 1, none⟩ a1).setCell ⟨x, 2, none⟩ a2).setCell ⟨x, 3, none⟩ a3).setCell ⟨x, 4, none⟩ a4).setCell ⟨x, 5, none⟩ a5).setCell ⟨x, 6, none⟩ a6).setCell ⟨x, 7, none⟩ a7).setCell ⟨x, 1, none⟩ s).heap.size = w.heap.size := by
  have hs : ∀ (w : World) (i : Nat) (v : Value), Ext (· = x) w (w.setCell ⟨x, i, none⟩ v) := fun w i v => Ext.setCell (S := (· = x)) w (a := ⟨x, i, none⟩) rfl v
  refine ⟨?_, ?_, by simp [World.setCell]⟩
  · refine (heap_set_here (heap_set_here (heap_set_here (heap_set_here (heap_set_here (heap_set_here (heap_set_here (heap_set_here (heap_set_here h))))))))).trans ?_
    simp
  · exact ((((((((hs _ _ _).trans (hs _ _ _)).trans (hs _ _ _)).trans (hs _ _ _)).trans (hs _ _ _)).trans (hs _ _ _)).trans (hs _ _ _)).trans (hs _ _ _)).trans (hs _ _ _)

section
variable {w W w2 w4 w5 : World} {B bk mn mm : Nat} {env : AL Ty} {am am1 am' : Am} {left L : Int}
theorem MPre.put {lv : AL Value} {s : ByteArray} {x : Nat} (h : MPre W B bk mn mm env am left) (hlv : ∀ s, lv.get s = (am s).map fun b => Value.pointer (some ⟨b, 0, none⟩)) (hx : x < W.heap.size)
    (h2 : SMap w2 mm (lv.put s (.pointer (some ⟨x, 0, none⟩)))) (hg : W.grownBy w2 (some mm)) : MPre w2 B bk mn mm env (am.put s x) left := by
  have hb : ∀ k, k < W.heap.size → k ≠ mm → w2.heap[k]? = W.heap[k]? := fun k hk hn => hg.block k hk fun e => by injection e with e; exact hn e
  have h1 := h.hlt
  have h3 := h.nm.ltm
  refine ⟨(World.cell?_of_block (hb bk h1 h.hmm.symm)).trans h.c0, (World.cell?_of_block (hb bk h1 h.hmm.symm)).trans h.c1, (World.cell?_of_block (hb bk h1 h.hmm.symm)).trans h.c2, (World.frozen?_of_block (hb bk h1 h.hmm.symm)).trans h.nf,
    h.nm.keep (hb mn h3 h.hmmn.symm) fun b hbB => ⟨hbB, hb b (by have := h.hB; omega) (by have := h.hBm; omega)⟩, ⟨_, h2, fun t => ?_⟩, h.hB, h.hBm, h.hmn, h.hmm, h.hmmn, Nat.lt_of_lt_of_le h1 hg.size, fun t b e => ?_⟩
  · rw [AL.get_put]
    unfold Am.put
    split
    · rfl
    · exact hlv t
  · unfold Am.put at e
    split at e
    · obtain rfl := Option.some.inj e
      exact Nat.lt_of_lt_of_le hx hg.size
    · exact Nat.lt_of_lt_of_le (h.old t b e) hg.size

theorem MStep.ofput {x : Nat} {s : ByteArray} (hs : am s = none) (hx0 : w.heap.size ≤ x) (hx : x < w2.heap.size) (e12 : Ext (fun k => k = bk ∨ k = mm) w w2) (h2 : MStep (fun k => k = bk ∨ k = mm) w2 w4 B bk mn mm env (am.put s x) am' L) :
    MStep (fun k => k = bk ∨ k = mm) w w4 B bk mn mm env am am' L := by
  have hs2 := h2.ext.size
  have hs1 := e12.size
  refine ⟨h2.pre, fun t b e => h2.sub t b ?_, fun t b e1 e2 => ?_, e12.trans h2.ext⟩
  · unfold Am.put
    rw [if_neg (fun e2 => by rw [e2, hs] at e; cases e)]
    exact e
  · by_cases ht : t = s
    · subst ht
      have := h2.sub t x (by simp [Am.put])
      obtain rfl : x = b := by rw [this] at e1; exact Option.some.inj e1
      omega
    · have := h2.new t b e1 (by unfold Am.put; rw [if_neg ht]; exact e2)
      omega
/-- A named type's block, behind the copy. -/
theorem named_done {x y : Nat} {s : ByteArray} {T : Ty} (hs : am s = none) (hT : env.get s = some T) (hk : T.kind ≠ 14) (hx0 : w.heap.size ≤ x) (hx : x < w2.heap.size) (e12 : Ext (fun k => k = bk ∨ k = mm) w w2)
    (h2 : MStep (fun k => k = bk ∨ k = mm) w2 w4 B bk mn mm env (am.put s x) am' L) (hy : RT w4 (Fresh w2 w4 am') am' T y) (hd : Dones w2 w4 (am.put s x) am' env) (h5 : MPre w5 B bk mn mm env am' L)
    (ho : ∀ k, k < w4.heap.size → k ≠ x → w5.heap[k]? = w4.heap[k]?) (hos : w5.os = w4.os ∧ w5.tape = w4.tape ∧ w5.output = w4.output ∧ w4.heap.size = w5.heap.size) (h7 : Nil7 w5 x)
    (hc : ∀ i, i < 7 → i ≠ 1 → w5.cell? ⟨x, i, none⟩ = w4.cell? ⟨y, i, none⟩) (hc1 : w5.cell? ⟨x, 1, none⟩ = some (.string s)) :
    MStep (fun k => k = bk ∨ k = mm) w w5 B bk mn mm env am am' L ∧ am' s = some x ∧ Dones w w5 am am' env := by
  have hax : am' s = some x := h2.sub s x (by simp [Am.put])
  have hx5 : Ext (fun k => k = x) w4 w5 := ⟨hos.1, hos.2.1, hos.2.2.1, Nat.le_of_eq hos.2.2.2, ho⟩
  have hs2 := h2.ext.size
  have hs5 := hos.2.2.2
  have hsub : ∀ t b, am t = some b → am' t = some b := fun t b e => h2.sub t b (by
    unfold Am.put
    rw [if_neg (fun e2 => by rw [e2, hs] at e; cases e)]
    exact e)
  have hkeep : ∀ i, Fresh w2 w4 am' i → Fresh w w5 am' i ∧ w5.heap[i]? = w4.heap[i]? := fun i hi => ⟨⟨by have := hi.1; omega, by have := hi.2.1; omega, hi.2.2⟩, ho i hi.2.1 (by have := hi.1; omega)⟩
  refine ⟨⟨h5, hsub, fun t b e1 e2 => ?_, ?_⟩, hax, fun t b e1 e2 => ?_⟩
  · by_cases ht : t = s
    · subst ht
      obtain rfl : x = b := by rw [hax] at e1; exact Option.some.inj e1
      omega
    · have := h2.new t b e1 (by unfold Am.put; rw [if_neg ht]; exact e2)
      omega
  · have he := e12.trans h2.ext
    exact ⟨hx5.os.trans he.os, hx5.tape.trans he.tape, hx5.output.trans he.output, Nat.le_trans he.size hx5.size, fun k hk hn => (ho k (by omega) (by omega)).trans (he.block k hk hn)⟩
  · by_cases ht : t = s
    · subst ht
      obtain rfl : x = b := by rw [hax] at e1; exact Option.some.inj e1
      refine ⟨h7, T, hT, hk, ?_⟩
      obtain ⟨k, n, s', of, fs⟩ := T
      unfold RT at hy
      rw [if_neg (by exact hk)] at hy
      obtain ⟨_, _, nm, _, _, e, ke, A, fl, fc, hTB, hO, hE, h13, hF⟩ := hy
      refine ⟨e, ke, A, fl, fc, ⟨(hc 0 (by decide) (by decide)).trans hTB.c0, hc1, (hc 2 (by decide) (by decide)).trans hTB.c2, (hc 3 (by decide) (by decide)).trans hTB.c3, (hc 4 (by decide) (by decide)).trans hTB.c4, (hc 5 (by decide) (by decide)).trans hTB.c5, (hc 6 (by decide) (by decide)).trans hTB.c6⟩, hO.keep hkeep, RE.keep hkeep (fun _ _ e => e) _ _ hE, h13, RF.keep hkeep (fun _ _ e => e) _ _ _ hF⟩
    · have e3 : (am.put s x) t = none := by unfold Am.put; rw [if_neg ht]; exact e2
      have hn := h2.new t b e1 e3
      exact (hd t b e1 e3).mono hkeep (fun _ _ e => e) (ho b hn.2 (by omega))
end

set_option maxHeartbeats 1600000 in
set_option maxRecDepth 100000 in
theorem byName_any {U : Lib.RTab} {B bk mn mm : Nat} {env : AL Ty} {N : Nat} (hE : EnvOk env) (ih : MakeOk U B bk mn mm env N) (w : World) (am : Am) (left deep n : Int) (name : ByteArray) (of : List Ty) (fs : List Fl) (hN : left.toNat < N) (hl6 : left ≤ 1000000) (hl0 : 0 ≤ left) (hd0 : 0 ≤ deep) (hd1 : deep ≤ 100)
    (h : MPre w B bk mn mm env am left) (hU : Uni U B w) :
    Calls Tryz.prog 59 #[.pointer (some ⟨bk, 0, none⟩), .string name, .int .i64 deep] w (MakePost w B bk mn mm env am left deep (.mk 14 n name of fs)) := by
  have c0 := h.c0
  have c1 := h.c1
  obtain ⟨lv, hlv, hlv2⟩ := h.ma
  have hnm := hlv2 name
  have H := Lib.hid h
  have IH := Lib.hid ih
  have HU := Lib.hid hU
  have HLV := Lib.hid hlv
  have HLV2 := Lib.hid hlv2
  clear h ih hU hlv hlv2
  cases ha : am name with
  | some b =>
    rw [ha] at hnm
    have hv : (if true = true then Value.tuple #[(lv.get name).getD (.pointer none), .bool (lv.get name).isSome] else (lv.get name).getD (.pointer none)) = .tuple #[.pointer (some ⟨b, 0, none⟩), .bool true] := by rw [hnm]; rfl
    have HV := Lib.hid hv
    clear hv hnm
    go_enter Tryz.func59, Tryz.ntmps59
    go_wp2_with (at_lookup; refine wpList_lookup_sv _ rfl _ _ 73 true rfl 9 55 Tryz.underlying73 Tryz.underlying9 lv mm rfl HLV.out name rfl (.pointer none) (zero55 _) _ HV.out ?_)
    go_ret2
    refine ⟨_, true, left, am, rfl, MStep.refl H.out _, Int.le_refl _, by omega, fun _ => ⟨hl0, ⟨b, rfl, ?_⟩, Dones.refl _ _ _⟩⟩
    unfold RT
    rw [if_pos rfl]
    exact ha
  | none =>
    rw [ha] at hnm
    have hv : (if true = true then Value.tuple #[(lv.get name).getD (.pointer none), .bool (lv.get name).isSome] else (lv.get name).getD (.pointer none)) = .tuple #[.pointer none, .bool false] := by rw [hnm]; rfl
    have HV := Lib.hid hv
    clear hv hnm
    obtain ⟨ln, hln, A, ca, D, cb, hval, his, hty⟩ := H.out.nm.look name
    have HLN := Lib.hid hln
    have HTY := Lib.hid hty
    clear hln hty
    cases hT : env.get name with
    | none =>
      have hT' : (ln.get name).isSome = false := by rw [his, hT]; rfl
      generalize hTT : envT env name = TT at hval HTY
      have hv2 : (if true = true then Value.tuple #[(ln.get name).getD z26, .bool (ln.get name).isSome] else (ln.get name).getD z26) = .tuple #[.agg #[.int .i64 TT.kind, .int .i64 TT.n, .string TT.s, .slice A TT.of.length ca, .slice D TT.fields.length cb], .bool false] := by rw [hT', hval]; rfl
      have HV2 := Lib.hid hv2
      clear hv2 hval his hT'
      go_enter Tryz.func59, Tryz.ntmps59
      go_wp2_with (first | (at_lookup; refine wpList_lookup_sv _ rfl _ _ 73 true rfl 9 55 Tryz.underlying73 Tryz.underlying9 lv mm rfl HLV.out name rfl (.pointer none) (zero55 _) _ HV.out ?_) | (at_lookup; refine wpList_lookup_sv _ rfl _ _ 72 true rfl 9 26 Tryz.underlying72 Tryz.underlying9 ln mn rfl HLN.out name rfl z26 (zero26 _) _ HV2.out ?_))
      go_ret2
      exact ⟨_, false, left, am, rfl, MStep.alloc H.out _ _, Int.le_refl _, by omega, fun h => nomatch h⟩
    | some T =>
      have hTT : envT env name = T := by simp [envT, hT]
      rw [hTT] at hval HTY
      have hT' : (ln.get name).isSome = true := by rw [his, hT]; rfl
      have hv2 : (if true = true then Value.tuple #[(ln.get name).getD z26, .bool (ln.get name).isSome] else (ln.get name).getD z26) = .tuple #[.agg #[.int .i64 T.kind, .int .i64 T.n, .string T.s, .slice A T.of.length ca, .slice D T.fields.length cb], .bool true] := by rw [hT', hval]; rfl
      have HV2 := Lib.hid hv2
      clear hv2 hval his hT'
      have hok := hE name T hT
      have hlt := H.out.hlt
      have hltm := H.out.ltm
      have hBk := H.out.hB
      go_enter Tryz.func59, Tryz.ntmps59
      go_wp2_with (first | (at_lookup; refine wpList_lookup_sv _ rfl _ _ 73 true rfl 9 55 Tryz.underlying73 Tryz.underlying9 lv mm rfl HLV.out name rfl (.pointer none) (zero55 _) _ HV.out ?_) | (at_lookup; refine wpList_lookup_sv _ rfl _ _ 72 true rfl 9 26 Tryz.underlying72 Tryz.underlying9 ln mn rfl HLN.out name rfl z26 (zero26 _) _ HV2.out ?_) | (at_mapUpdate; refine wpList_mapUpdate_s _ rfl _ _ _ 73 rfl 9 55 Tryz.underlying73 Tryz.underlying9 lv mm rfl ((HLV.out.keep (Below.heap_alloc w _ mm HLV.out.lt)).keep (Below.heap_alloc _ _ mm (by have := HLV.out.lt; simp; omega))) name rfl (.pointer (some ⟨w.heap.size + 1, 0, none⟩)) rfl ?_; intro w2 hm2 hg2 hz2; refine Hid.out ?_))
      refine Lib.hid ?_
      have hp1 := (H.out.alloc (.cells #[.int .i64 T.kind, .int .i64 T.n, .string T.s, .slice A T.of.length ca, .slice D T.fields.length cb] 26)).alloc (tb 0 name none none 0 none 0 0 0)
      have hp2 := hp1.put HLV2.out (x := w.heap.size + 1) (by simp) hm2 hg2
      have hB5 : Box5' w2 w.heap.size (.int .i64 T.kind) (.int .i64 T.n) (.string T.s) (.slice A T.of.length ca) (.slice D T.fields.length cb) :=
        ((Box5'.new w _ _ _ _ _ 26).keep (Below.heap_alloc _ (tb 0 name none none 0 none 0 0 0) w.heap.size (by simp))).keep (hg2.block w.heap.size (by simp; omega) (fun e => by injection e; omega))
      have hX : w2.heap[w.heap.size + 1]? = some (tb 0 name none none 0 none 0 0 0) := by
        rw [hg2.block (w.heap.size + 1) (by simp) (fun e => by injection e; omega)]
        have e := heap_alloc_new (w.alloc (.cells #[.int .i64 T.kind, .int .i64 T.n, .string T.s, .slice A T.of.length ca, .slice D T.fields.length cb] 26)) (tb 0 name none none 0 none 0 0 0)
        rw [show ∀ o, (w.alloc o).heap.size = w.heap.size + 1 by simp] at e
        exact e
      have hbel : ∀ b, b < w.heap.size → b ≠ mm → w2.heap[b]? = w.heap[b]? := fun b hb hn =>
        (hg2.block b (by simp; omega) (fun e => by injection e with e; exact hn e)).trans ((Below.heap_alloc _ _ b (by simp; omega)).trans (Below.heap_alloc w _ b hb))
      have hty2 := TyV.keep (w' := w2) (ok' := (· < B)) (fun b hb => ⟨hb, hbel b (by omega) (by have := H.out.hBm; omega)⟩) _ _ HTY.out
      have hx2 : Ext (fun k => k = bk ∨ k = mm) w w2 := ⟨hg2.os, hg2.tape, hg2.output, by have := hg2.size; simp at this; omega, fun k hk hn => hbel k hk (by omega)⟩
      have hU2 := HU.out.keep (hx2.below (B := B) (by have := H.out.hBm; omega) (by omega))
      have hsz : w2.heap.size = w.heap.size + 2 := by rw [hz2]; simp
      have HP2 := Lib.hid hp2
      have HTY2 := Lib.hid hty2
      have HX2 := Lib.hid hx2
      have HU2 := Lib.hid hU2
      have HX := Lib.hid hX
      obtain ⟨d0, d1, d2, d3, d4⟩ := hB5
      clear hp1 hp2 hm2 hg2 hty2 hx2 hU2 hX hbel hz2 HLV HLV2 HLN HTY HV HV2
      go_wp2_with (go_at_call 30; refine (IH.out w2 _ left (deep + 1) T _ hN hl6 hl0 (by omega) (by omega) hok.1 hok.2.1 HP2.out HU2.out HTY2.out).mono ?_; rintro e w4 ⟨p, r, L, am', rfl, hm, hL, hL1, hr⟩; refine Hid.out ?_)
      refine Lib.hid ?_
      have HM := Lib.hid hm
      have HR := Lib.hid hr
      clear hm hr d0 d1 d2 d3 d4
      cases r with
      | false =>
        go_wp2
        go_ret2
        exact ⟨_, false, L, am', rfl, (MStep.ofput ha (by omega) (by omega) HX2.out HM.out), hL, by omega, fun h => nomatch h⟩
      | true =>
        obtain ⟨hL0, ⟨y, rfl, hy⟩, hd⟩ := HR.out rfl
        have hy' := hy
        have hm4 := HM.out
        have hX4 : w4.heap[w.heap.size + 1]? = some (tb 0 name none none 0 none 0 0 0) := (hm4.ext.block _ (by omega) (by omega)).trans HX.out
        have hlt4 := hm4.ext.size
        obtain ⟨k, n', s', of', fs'⟩ := T
        unfold RT at hy'
        rw [if_neg (by exact hok.2.2)] at hy'
        obtain ⟨hf, h7, nm, _, _, e, ke, A', fl, fc, hTB, _⟩ := hy'
        have hN : kOf k n' = kOf (Ty.mk k n' s' of' fs').kind (Ty.mk k n' s' of' fs').n := rfl
        obtain ⟨K, hK⟩ : ∃ K, kOf k n' = K := ⟨_, rfl⟩
        obtain ⟨M, hM⟩ : ∃ M, markOf k = M := ⟨_, rfl⟩
        obtain ⟨NN, hNN⟩ : ∃ NN, (if k = 10 then n' else 0) = NN := ⟨_, rfl⟩
        obtain ⟨EE, hEE⟩ : ∃ EE, (e.map fun x => (⟨x, 0, none⟩ : Addr)) = EE := ⟨_, rfl⟩
        obtain ⟨KE, hKE⟩ : ∃ KE, (ke.map fun x => (⟨x, 0, none⟩ : Addr)) = KE := ⟨_, rfl⟩
        have ⟨e0, e1, e2, e3, e4, e5, e6⟩ := hTB
        rw [hK] at e0
        rw [hM] at e6
        rw [hNN] at e4
        rw [hEE] at e2
        rw [hKE] at e3
        clear hTB hN hK hM hNN hEE hKE
        have e7 := h7.1
        have hxy : y ≠ w.heap.size + 1 := by have := hf.1; omega
        have hfz : ∀ i, w4.frozen? ⟨w.heap.size + 1, i, none⟩ = false := fun i => by simp only [World.frozen?, hX4]; simp
        have HY := Lib.hid hy
        have HD := Lib.hid hd
        have HX4 := Lib.hid hX4
        have HF := Lib.hid hf
        have g0 : w4.cell? ⟨w.heap.size + 1, 0, none⟩ = some (.int .u8 0) := by simp only [World.cell?, hX4]; rfl
        have g1 : w4.cell? ⟨w.heap.size + 1, 1, none⟩ = some (.string name) := by simp only [World.cell?, hX4]; rfl
        have g2 : w4.cell? ⟨w.heap.size + 1, 2, none⟩ = some (.pointer none) := by simp only [World.cell?, hX4]; rfl
        have g3 : w4.cell? ⟨w.heap.size + 1, 3, none⟩ = some (.pointer none) := by simp only [World.cell?, hX4]; rfl
        have g4 : w4.cell? ⟨w.heap.size + 1, 4, none⟩ = some (.int .i64 0) := by simp only [World.cell?, hX4]; rfl
        have g5 : w4.cell? ⟨w.heap.size + 1, 5, none⟩ = some (.slice none 0 0) := by simp only [World.cell?, hX4]; rfl
        have g6 : w4.cell? ⟨w.heap.size + 1, 6, none⟩ = some (.int .i64 0) := by simp only [World.cell?, hX4]; rfl
        have g7 : w4.cell? ⟨w.heap.size + 1, 7, none⟩ = some .nilIface := by simp only [World.cell?, hX4]; rfl
        have z0 := hfz 0
        have z1 := hfz 1
        have z2 := hfz 2
        have z3 := hfz 3
        have z4 := hfz 4
        have z5 := hfz 5
        have z6 := hfz 6
        have z7 := hfz 7
        clear hy hd hX4 hf hfz hm4
        go_wp2_with fail
        obtain ⟨hb5, hx5, hs5⟩ := copied (a0 := .int .u8 K) (a1 := .string nm) (a2 := .pointer EE) (a3 := .pointer KE) (a4 := .int .i64 NN) (a5 := .slice A' fl fc) (a6 := .int .i64 M) (a7 := .nilIface) (s := .string name) HX4.out
        generalize (((((((((w4.setCell ⟨w.heap.size + 1, 0, none⟩ (.int .u8 K)).setCell ⟨w.heap.size + 1, 1, none⟩ (.string nm)).setCell ⟨w.heap.size + 1, 2, none⟩ (.pointer EE)).setCell ⟨w.heap.size + 1, 3, none⟩ (.pointer KE)).setCell ⟨w.heap.size + 1, 4, none⟩ (.int .i64 NN)).setCell ⟨w.heap.size + 1, 5, none⟩ (.slice A' fl fc)).setCell ⟨w.heap.size + 1, 6, none⟩ (.int .i64 M)).setCell ⟨w.heap.size + 1, 7, none⟩ .nilIface).setCell ⟨w.heap.size + 1, 1, none⟩ (.string name)) = w5 at hb5 hx5 hs5 ⊢
        go_ret2
        have hmn := HM.out.pre.nm.ltm
        have hlm := H.out.nm.ltm
        have hbm := H.out.hBm
        have hd3 := named_done (x := w.heap.size + 1) (w5 := w5) ha hT hok.2.2 (by omega) (by omega) HX2.out HM.out HY.out HD.out
          (HM.out.pre.ext hx5 fun i hi => by have hi : i = w.heap.size + 1 := hi; omega) (fun i hi hn => hx5.block i hi hn) ⟨hx5.os, hx5.tape, hx5.output, hs5.symm⟩
          ⟨by simp only [World.cell?, hb5]; rfl, by simp only [World.frozen?, hb5]; simp⟩ ?_ (by simp only [World.cell?, hb5]; rfl)
        · refine ⟨_, true, L, am', rfl, hd3.1, hL, by omega, fun _ => ⟨hL0, ⟨_, rfl, ?_⟩, hd3.2.2⟩⟩
          unfold RT
          rw [if_pos rfl]
          exact hd3.2.1
        · intro i hi hn
          have hc : w5.cell? ⟨w.heap.size + 1, i, none⟩ = #[Value.int .u8 K, .string name, .pointer EE, .pointer KE, .int .i64 NN, .slice A' fl fc, .int .i64 M, .nilIface][i]? := by simp only [World.cell?, hb5]; rfl
          rw [hc]
          obtain rfl | rfl | rfl | rfl | rfl | rfl : i = 0 ∨ i = 2 ∨ i = 3 ∨ i = 4 ∨ i = 5 ∨ i = 6 := by omega
          · exact e0.symm
          · exact e2.symm
          · exact e3.symm
          · exact e4.symm
          · exact e5.symm
          · exact e6.symm
end Go.Proofs.YtnmgocbmofbppaaGreatDoor
namespace Go.Proofs.YtnmgocbmofbppaaGreatDoor
open Go.RowKit

/-- New blocks, the array at v not among them. -/
def FreshV (w w' : World) (am : Am) (v : Value) (k : Nat) : Prop := Fresh w w' am k ∧ v.ownBlock ≠ some k
abbrev wM (w : World) : World := w.alloc (.map #[] 0)
abbrev FS (bk mm x m : Nat) (k : Nat) : Prop := k = bk ∨ k = mm ∨ k = x ∨ k = m

structure FSt (w wr : World) (B bk mn mm x : Nat) (env : AL Ty) (am am1 : Am) (L : Int) (fs : List Fl) (j : Nat) (seen : AL Value) (v : Value) (bs : List Nat) : Prop where
  step : MStep (FS bk mm x w.heap.size) (wM w) wr B bk mn mm env am am1 L
  sm : SMap wr w.heap.size seen
  seen_ : ∀ s, (s ∈ (fs.take j).map Fl.name → seen.get s = some (.bool true)) ∧ (s ∉ (fs.take j).map Fl.name → seen.get s = none)
  c5 : wr.cell? ⟨x, 5, none⟩ = some v
  cx : ∀ i, i ≠ 5 → wr.cell? ⟨x, i, none⟩ = w.cell? ⟨x, i, none⟩
  fz : ∀ i, wr.frozen? ⟨x, i, none⟩ = w.frozen? ⟨x, i, none⟩
  own : wr.ownsRow (w.heap.size + 1) 116 4 v j (fcells (fs.take j) bs)
  len : bs.length = j
  rt : ∀ (i : Nat) (f : Fl) (b : Nat), (fs.take j)[i]? = some f → bs[i]? = some b → RT wr (FreshV (wM w) wr am1 v) am1 f.t b
  nd : ((fs.take j).map Fl.name).Nodup
  emb : ∀ f ∈ fs.take j, embOk f
  done : ∀ s b, am1 s = some b → am s = none → Done wr (FreshV (wM w) wr am1 v) am1 env s b
  far : ∀ s b, am1 s = some b → v.ownBlock ≠ some b
/-- Where fields is. -/
structure FOk (w : World) (B bk mn mm x : Nat) : Prop where
  hx : x < w.heap.size
  hB : B ≤ x
  nb : x ≠ bk
  nm : x ≠ mm
  nn : x ≠ mn
  lb : bk < w.heap.size
  lm : mm < w.heap.size
  ln : mn < w.heap.size
  BB : B ≤ bk
  Bm : B ≤ mm
theorem own_lt {w : World} {base n : Nat} {v : Value} {xs : List Value} (h : w.ownsRow base 116 4 v n xs) {g : Nat} (e : v.ownBlock = some g) : base ≤ g ∧ g < w.heap.size := by
  rcases h.2 with ⟨rfl, _⟩ | ⟨g', cap, cur, rfl, hb, hg, _⟩
  · cases e
  · have : g' = g := by simpa [Value.ownBlock] using e
    subst this
    refine ⟨hb, ?_⟩
    rcases Nat.lt_or_ge g' w.heap.size with hlt | hge
    · exact hlt
    · rw [Array.getElem?_eq_none hge] at hg; cases hg
theorem own_kept {w w' : World} {base n : Nat} {v : Value} {xs : List Value} (h : w.ownsRow base 116 4 v n xs) (hk : ∀ g, v.ownBlock = some g → w'.heap[g]? = w.heap[g]?) : w'.ownsRow base 116 4 v n xs := by
  refine ⟨h.1, ?_⟩
  rcases h.2 with h0 | ⟨g', cap, cur, rfl, hb, hg, r⟩
  · exact Or.inl h0
  · exact Or.inr ⟨g', cap, cur, rfl, hb, (hk g' rfl).trans hg, r⟩

section
variable {w wr w2 : World} {B bk mn mm x : Nat} {env : AL Ty} {am am1 am2 : Am} {L L2 : Int} {fs : List Fl} {j : Nat} {seen : AL Value} {v : Value} {bs : List Nat}
theorem FSt.go (h : FSt w wr B bk mn mm x env am am1 L fs j seen v bs) (o : FOk w B bk mn mm x) (k : MStep (fun i => i = bk ∨ i = mm) wr w2 B bk mn mm env am1 am2 L2) (d : Dones wr w2 am1 am2 env) :
    FSt w w2 B bk mn mm x env am am2 L2 fs j seen v bs := by
  have hs1 := h.step.ext.size
  have hs1' : w.heap.size + 1 ≤ wr.heap.size := by simpa using hs1
  have hsm := h.sm.lt
  have hb : ∀ i, i < wr.heap.size → i ≠ bk → i ≠ mm → w2.heap[i]? = wr.heap[i]? := fun i hi h1 h2 => k.ext.block i hi (by omega)
  have hx := hb x (by have := o.hx; omega) o.nb o.nm
  have k' : MStep (FS bk mm x w.heap.size) wr w2 B bk mn mm env am1 am2 L2 := k.mono fun i _ hi => by
    rcases hi with hi | hi
    · exact .inl hi
    · exact .inr (.inl hi)
  have hst := h.step.trans k'
  have hkeep : ∀ i, FreshV (wM w) wr am1 v i → FreshV (wM w) w2 am2 v i ∧ w2.heap[i]? = wr.heap[i]? := fun i hi => by
    have h1 : w.heap.size + 1 ≤ i := by simpa using hi.1.1
    have := o.lb
    have := o.lm
    exact ⟨⟨hi.1.trans h.step k, hi.2⟩, hb i hi.1.2.1 (by omega) (by omega)⟩
  have hfar : ∀ s b, am2 s = some b → v.ownBlock ≠ some b := fun s b e e2 => by
    have hl := own_lt h.own e2
    cases e1 : am1 s with
    | none => have := k.new s b e e1; omega
    | some c =>
      have e3 := k.sub s c e1
      rw [e] at e3
      obtain rfl := Option.some.inj e3
      exact h.far s b e1 e2
  refine ⟨hst, h.sm.keep (hb _ hsm (by have := o.lb; omega) (by have := o.lm; omega)), h.seen_, (World.cell?_of_block hx).trans h.c5, fun i hi => (World.cell?_of_block hx).trans (h.cx i hi), fun i => (World.frozen?_of_block hx).trans (h.fz i),
    own_kept h.own fun g e => hb g (own_lt h.own e).2 (by have := (own_lt h.own e).1; have := o.lb; omega) (by have := (own_lt h.own e).1; have := o.lm; omega), h.len, fun i f b e1 e2 => RT.keep hkeep k.sub _ _ (h.rt i f b e1 e2), h.nd, h.emb, fun s b e1 e2 => ?_, hfar⟩
  cases e : am1 s with
  | none =>
    refine (d s b e1 e).mono (fun i hi => ⟨⟨hi.late hs1, fun e4 => ?_⟩, rfl⟩) (fun _ _ e => e) rfl
    have := (own_lt h.own e4).2
    have := hi.1
    omega
  | some c =>
    have e3 := k.sub s c e
    obtain rfl : c = b := by rw [e3] at e1; exact Option.some.inj e1
    have hn := h.step.new s c e e2
    have hn' : w.heap.size + 1 ≤ c := by simpa using hn.1
    have := o.lb
    have := o.lm
    exact (h.done s c e e2).mono hkeep k.sub (hb c hn.2 (by omega) (by omega))
/-- What fields leaves. -/
def FieldsPost (w : World) (B bk mn mm x : Nat) (env : AL Ty) (am : Am) (left deep : Int) (fs : List Fl) (e : Ending) (w' : World) : Prop :=
  ∃ r L am', e = .returned (.bool r) ∧ MStep (fun k => k = bk ∨ k = mm ∨ k = x) w w' B bk mn mm env am am' L ∧ L ≤ left ∧ -2001 * (102 - deep) ≤ L ∧ (∀ i, i ≠ 5 → w'.cell? ⟨x, i, none⟩ = w.cell? ⟨x, i, none⟩) ∧ (∀ i, w'.frozen? ⟨x, i, none⟩ = w.frozen? ⟨x, i, none⟩) ∧
    (r = true → 0 ≤ L ∧ (∃ A fc, w'.cell? ⟨x, 5, none⟩ = some (.slice A fs.length fc) ∧ RF w' (Fresh w w' am') am' fs A 0) ∧ (fs.map Fl.name).Nodup ∧ (∀ f ∈ fs, embOk f) ∧ Dones w w' am am' env)
theorem FSt.leave (h : FSt w wr B bk mn mm x env am am1 L fs j seen v bs) : MStep (fun k => k = bk ∨ k = mm ∨ k = x) w wr B bk mn mm env am am1 L := by
  have hs := h.step.ext.size
  have hs' : w.heap.size + 1 ≤ wr.heap.size := by simpa using hs
  refine ⟨h.step.pre, h.step.sub, fun s b e1 e2 => by have := h.step.new s b e1 e2; simp at this; omega, h.step.ext.os, h.step.ext.tape, h.step.ext.output, by omega, fun k hk hn => ?_⟩
  rw [h.step.ext.block k (by simp; omega) (by unfold FS; omega)]
  exact Below.heap_alloc w _ k hk
/-- It fails. -/
theorem FSt.bad {left deep : Int} {e : Ending} (he : e = .returned (.bool false)) (h : FSt w wr B bk mn mm x env am am1 L fs j seen v bs) (o : FOk w B bk mn mm x) (k : MStep (fun i => i = bk ∨ i = mm) wr w2 B bk mn mm env am1 am2 L2) (h1 : L2 ≤ left) (h2 : -2001 * (102 - deep) ≤ L2) :
    FieldsPost w B bk mn mm x env am left deep fs e w2 := by
  have hs1 := h.step.ext.size
  have hs1' : w.heap.size + 1 ≤ wr.heap.size := by simpa using hs1
  have hx : w2.heap[x]? = wr.heap[x]? := k.ext.block x (by have := o.hx; omega) (by have := o.nb; have := o.nm; omega)
  refine ⟨false, L2, am2, he, h.leave.trans (k.mono fun i _ hi => by omega), h1, h2, fun i hi => (World.cell?_of_block hx).trans (h.cx i hi), fun i => (World.frozen?_of_block hx).trans (h.fz i), fun h => nomatch h⟩
theorem FSt.start (h : MPre w B bk mn mm env am L) (o : FOk w B bk mn mm x) (h5 : w.cell? ⟨x, 5, none⟩ = some (.slice none 0 0)) (fs : List Fl) : FSt w (wM w) B bk mn mm x env am am L fs 0 [] (.slice none 0 0) [] := by
  have hb := Below.heap_alloc w (.map #[] 0) x o.hx
  refine ⟨MStep.refl (h.alloc _) _, SMap.new w, fun s => ⟨fun e => by simp at e, fun _ => rfl⟩, (World.cell?_of_block hb).trans h5, fun i _ => World.cell?_of_block hb, fun i => World.frozen?_of_block hb, ⟨by simp [fcells], Or.inl ⟨rfl, rfl⟩⟩, rfl, fun i f b e => by simp at e, by simp, by simp, fun s b e1 e2 => by simp [e1] at e2, fun s b _ e => nomatch e⟩

theorem fcells_at : ∀ (fs : List Fl) (bs : List Nat) (i : Nat) (f : Fl) (b : Nat), fs[i]? = some f → bs[i]? = some b →
    (fcells fs bs)[i * 4]? = some (.string f.name) ∧ (fcells fs bs)[i * 4 + 1]? = some (.string f.tag) ∧ (fcells fs bs)[i * 4 + 2]? = some (.pointer (some ⟨b, 0, none⟩)) ∧ (fcells fs bs)[i * 4 + 3]? = some (.bool f.emb)
  | [], _, _, _, _, h, _ => by simp at h
  | _ :: _, [], _, _, _, _, h => by simp at h
  | g :: fs, c :: bs, 0, f, b, h1, h2 => by
    simp at h1 h2
    subst h1 h2
    simp [fcells]
  | g :: fs, c :: bs, i + 1, f, b, h1, h2 => by
    have ih := fcells_at fs bs i f b (by simpa using h1) (by simpa using h2)
    have e : (i + 1) * 4 = i * 4 + 4 := by omega
    simp only [fcells, e]
    simpa using ih
theorem fcells_snoc : ∀ (fs : List Fl) (bs : List Nat) (f : Fl) (b : Nat), fs.length = bs.length → fcells (fs ++ [f]) (bs ++ [b]) = fcells fs bs ++ [.string f.name, .string f.tag, .pointer (some ⟨b, 0, none⟩), .bool f.emb]
  | [], [], _, _, _ => rfl
  | [], _ :: _, _, _, h => by simp at h
  | _ :: _, [], _, _, h => by simp at h
  | g :: fs, c :: bs, f, b, h => by
    have ih := fcells_snoc fs bs f b (by simpa using h)
    simp only [List.cons_append, fcells, ih]
theorem RF_of {w : World} {ok : Nat → Prop} {am : Am} {A : Option Addr} : ∀ (fs : List Fl) (i : Nat), (∀ k f, fs[k]? = some f → ∃ fb, A = some ⟨fb, 0, none⟩ ∧ ok fb ∧ RFl w ok am f fb ((i + k) * 4)) → RF w ok am fs A i
  | [], _, _ => trivial
  | f :: fs, i, h => ⟨h 0 f rfl, RF_of fs (i + 1) fun k g e => by
      have := h (k + 1) g (by simpa using e)
      rwa [show i + (k + 1) = i + 1 + k by omega] at this⟩
/-- The loop's end. -/
theorem FSt.good {left deep : Int} {e : Ending} (he : e = .returned (.bool true)) (h : FSt w wr B bk mn mm x env am am1 L fs fs.length seen v bs) (h0 : 0 ≤ L) (h1 : L ≤ left) (h2 : -2001 * (102 - deep) ≤ L) :
    FieldsPost w B bk mn mm x env am left deep fs e wr := by
  have hs1 := h.step.ext.size
  have hs1' : w.heap.size + 1 ≤ wr.heap.size := by simpa using hs1
  have hk : ∀ i, FreshV (wM w) wr am1 v i → Fresh w wr am1 i ∧ wr.heap[i]? = wr.heap[i]? := fun i hi => ⟨hi.1.late (by simp), rfl⟩
  have hnd := h.nd
  have hem := h.emb
  have hown := h.own
  have hrt := h.rt
  rw [List.take_length] at hnd hem hown hrt
  have hlen := h.len
  obtain ⟨A, fc, hA⟩ : ∃ A fc, v = .slice A fs.length fc := by
    rcases hown.2 with ⟨hv, hn⟩ | ⟨g, cap, cur, hv, _⟩
    · exact ⟨none, 0, by rw [hv, hn]⟩
    · exact ⟨_, _, hv⟩
  refine ⟨true, L, am1, he, h.leave, h1, h2, h.cx, h.fz, fun _ => ⟨h0, ⟨A, fc, hA ▸ h.c5, RF_of fs 0 fun k f hf => ?_⟩, hnd, hem, fun s b e1 e2 => (h.done s b e1 e2).mono hk (fun _ _ e => e) rfl⟩⟩
  have hlt : k < fs.length := (List.getElem?_eq_some_iff.1 hf).1
  obtain ⟨b, hb⟩ : ∃ b, bs[k]? = some b := ⟨_, List.getElem?_eq_getElem (by omega)⟩
  rcases hown.2 with ⟨_, hn⟩ | ⟨g, cap, cur, hv, hbg, hg, _, _, _, htk⟩
  · omega
  · have hA' : A = some ⟨g, 0, none⟩ := by rw [hv] at hA; injection hA with e1; exact e1.symm
    have hgb : v.ownBlock = some g := by rw [hv]; rfl
    have hgl := (own_lt hown hgb).2
    refine ⟨g, hA', ⟨by omega, hgl, fun s e => h.far s g e hgb⟩, ?_⟩
    obtain ⟨q0, q1, q2, q3⟩ := fcells_at fs bs k f b hf hb
    have hc : ∀ i u, (fcells fs bs)[i]? = some u → wr.cell? ⟨g, i, none⟩ = some u := fun i u e => by
      rw [← htk, List.getElem?_take] at e
      split at e
      · simp only [World.cell?, hg]
        simpa using e
      · cases e
    have hR := RT.keep hk (fun _ _ e => e) _ _ (hrt k f b hf hb)
    obtain ⟨name, tag, emb, t⟩ := f
    unfold RFl
    rw [show (0 + k) * 4 = k * 4 by omega]
    exact ⟨b, ⟨hc _ _ q0, hc _ _ q1, hc _ _ q2, hc _ _ q3⟩, hR⟩
/-- A field is added. -/
theorem FSt.add {w3 w4 w5 w6 : World} {f : Fl} {b g cap : Nat} (h : FSt w w3 B bk mn mm x env am am1 L fs j seen v bs) (o : FOk w B bk mn mm x) (hf : fs[j]? = some f) (hns : seen.get f.name = none) (he : embOk f) (hr : RT w3 (FreshV (wM w) w3 am1 v) am1 f.t b)
    (hm : SMap w4 w.heap.size (seen.put f.name (.bool true))) (g4 : w3.grownBy w4 (some w.heap.size)) (e5 : Ext (fun _ => False) w4 w5)
    (own : w6.ownsRow (w.heap.size + 1) 116 4 (.slice (some ⟨g, 0, none⟩) (j + 1) cap) (j + 1) (fcells (fs.take j) bs ++ [.string f.name, .string f.tag, .pointer (some ⟨b, 0, none⟩), .bool f.emb]))
    (g6 : w5.grownBy w6 v.ownBlock) (hat : v.ownBlock = some g ∨ g = w5.heap.size) :
    FSt w (w6.setCell ⟨x, 5, none⟩ (.slice (some ⟨g, 0, none⟩) (j + 1) cap)) B bk mn mm x env am am1 L fs (j + 1) (seen.put f.name (.bool true)) (.slice (some ⟨g, 0, none⟩) (j + 1) cap) (bs ++ [b]) := by
  have hs1 := h.step.ext.size
  have hs1' : w.heap.size + 1 ≤ w3.heap.size := by simpa using hs1
  have hs4 := g4.size
  have hs5 := e5.size
  have hs6 := g6.size
  have hxl := o.hx
  have hlb := o.lb
  have hlm := o.lm
  have hln := o.ln
  have ho : ∀ i, v.ownBlock = some i → w.heap.size + 1 ≤ i := fun i e => (own_lt h.own e).1
  have hgl := own_lt own (g := g) rfl
  have hg0 : w.heap.size + 1 ≤ g := hgl.1
  have hset : ∀ i, i ≠ x → (w6.setCell ⟨x, 5, none⟩ (.slice (some ⟨g, 0, none⟩) (j + 1) cap)).heap[i]? = w6.heap[i]? := fun i hi => Below.heap_setCell w6 _ _ i hi
  have hs7 : (w6.setCell ⟨x, 5, none⟩ (.slice (some ⟨g, 0, none⟩) (j + 1) cap)).heap.size = w6.heap.size := by simp [World.setCell]
  have h36 : ∀ i, i < w3.heap.size → i ≠ w.heap.size → v.ownBlock ≠ some i → w6.heap[i]? = w3.heap[i]? := fun i hi h1 h2 =>
    (g6.block i (by omega) (fun e => h2 e.symm)).trans ((e5.block i (by omega) (fun e => e)).trans (g4.block i hi (fun e => by injection e with e; exact h1 e)))
  have h37 : ∀ i, i < w3.heap.size → i ≠ w.heap.size → v.ownBlock ≠ some i → i ≠ x → (w6.setCell ⟨x, 5, none⟩ (.slice (some ⟨g, 0, none⟩) (j + 1) cap)).heap[i]? = w3.heap[i]? := fun i hi h1 h2 h3 => (hset i h3).trans (h36 i hi h1 h2)
  have hx6 : w6.heap[x]? = w3.heap[x]? := h36 x (by omega) (by omega) (fun e => by have := ho x e; omega)
  generalize hW : w6.setCell ⟨x, 5, none⟩ (.slice (some ⟨g, 0, none⟩) (j + 1) cap) = W at *
  have hext : Ext (fun i => i = w.heap.size ∨ v.ownBlock = some i ∨ i = x) w3 W := by
    have e1 : W.os = w6.os ∧ W.tape = w6.tape ∧ W.output = w6.output := by rw [← hW]; exact ⟨rfl, rfl, rfl⟩
    exact ⟨e1.1.trans (g6.os.trans (e5.os.trans g4.os)), e1.2.1.trans (g6.tape.trans (e5.tape.trans g4.tape)), e1.2.2.trans (g6.output.trans (e5.output.trans g4.output)), by omega, fun i hi hn => h37 i hi (fun e => hn (.inl e)) (fun e => hn (.inr (.inl e))) (fun e => hn (.inr (.inr e)))⟩
  have hpre : MPre W B bk mn mm env am1 L := h.step.pre.ext hext fun i hi => by
    have hBx := o.hB
    have hBb := o.BB
    have hBm := o.Bm
    rcases hi with rfl | hi | rfl
    · omega
    · have := ho i hi; omega
    · exact ⟨hBx, o.nb, o.nm, o.nn⟩
  have hkeep : ∀ i, FreshV (wM w) w3 am1 v i → FreshV (wM w) W am1 (.slice (some ⟨g, 0, none⟩) (j + 1) cap) i ∧ W.heap[i]? = w3.heap[i]? := fun i hi => by
    have h1 : w.heap.size + 1 ≤ i := by simpa using hi.1.1
    have h2 := hi.1.2.1
    refine ⟨⟨⟨hi.1.1, by omega, hi.1.2.2⟩, fun e => ?_⟩, h37 i h2 (by omega) hi.2 (by omega)⟩
    have e : g = i := by simpa [Value.ownBlock] using e
    rcases hat with h3 | h3
    · exact hi.2 (by rw [h3, e])
    · omega
  have hfar : ∀ s c, am1 s = some c → (Value.slice (some ⟨g, 0, none⟩) (j + 1) cap).ownBlock ≠ some c := fun s c e e2 => by
    have e2 : g = c := by simpa [Value.ownBlock] using e2
    have := h.step.pre.old s c e
    rcases hat with h3 | h3
    · exact h.far s c e (by rw [h3, e2])
    · omega
  have htk : fs.take (j + 1) = fs.take j ++ [f] := take_snoc hf
  have hjl : j < fs.length := (List.getElem?_eq_some_iff.1 hf).1
  have hjt : (fs.take j).length = j := by rw [List.length_take]; omega
  have htl : (fs.take j).length = bs.length := by rw [List.length_take, h.len]; omega
  refine ⟨⟨hpre, h.step.sub, fun s c e1 e2 => ?_, ?_⟩, ?_, fun s => ?_, ?_, fun i hi => ?_, fun i => ?_, ?_, by simp [h.len], fun i f' b' e1 e2 => ?_, ?_, fun f' hf' => ?_, fun s c e1 e2 => ?_, hfar⟩
  · have := h.step.new s c e1 e2
    omega
  · have e := h.step.ext
    exact ⟨hext.os.trans e.os, hext.tape.trans e.tape, hext.output.trans e.output, by omega, fun k hk hn => (h37 k (by omega) (fun e => hn (.inr (.inr (.inr e)))) (fun e => by have := ho k e; simp at hk; omega) (fun e => hn (.inr (.inr (.inl e))))).trans (e.block k hk hn)⟩
  · refine hm.keep ?_
    have e1 : w6.heap[w.heap.size]? = w4.heap[w.heap.size]? := (g6.block _ (by have := hm.lt; omega) (fun e => by have := ho _ e.symm; omega)).trans (e5.block _ hm.lt (fun e => e))
    exact (hset _ (by omega)).trans e1
  · rw [AL.get_put, htk, List.map_append]
    by_cases hs : s = f.name
    · simp [hs]
    · have := h.seen_ s
      simp only [if_neg hs, List.map_cons, List.map_nil, List.mem_append, List.mem_singleton, hs, or_false]
      exact this
  · rw [← hW]
    refine World.cell?_setCell_same _ _ _ (u := v) ?_
    exact (World.cell?_of_block hx6).trans h.c5
  · rw [← hW, World.cell?_setCell_other (h := fun e => by injection e with e1 e2; exact hi e2.symm)]
    exact (World.cell?_of_block hx6).trans (h.cx i hi)
  · rw [← hW, World.frozen?_setCell]
    exact (World.frozen?_of_block hx6).trans (h.fz i)
  · rw [htk, fcells_snoc _ _ _ _ htl]
    exact own_kept own fun g' e => by
      have e : g = g' := by simpa [Value.ownBlock] using e
      exact hset g' (by omega)
  · rw [htk] at e1
    rcases Nat.lt_or_ge i j with hij | hij
    · rw [List.getElem?_append_left (by omega)] at e1
      rw [List.getElem?_append_left (by rw [h.len]; exact hij)] at e2
      exact RT.keep hkeep (fun _ _ e => e) _ _ (h.rt i f' b' e1 e2)
    · rw [List.getElem?_append_right (by rw [h.len]; exact hij)] at e2
      obtain rfl : i = j := by
        have := (List.getElem?_eq_some_iff.1 e2).1
        simp [h.len] at this
        omega
      rw [List.getElem?_append_right (by omega)] at e1
      simp [htl, h.len] at e1 e2
      subst e1 e2
      exact RT.keep hkeep (fun _ _ e => e) _ _ hr
  · rw [htk, List.map_append, List.nodup_append]
    refine ⟨h.nd, by simp, fun a ha c hc => ?_⟩
    simp at hc
    subst hc
    intro e
    subst e
    rw [(h.seen_ _).1 ha] at hns
    cases hns
  · rw [htk] at hf'
    rcases List.mem_append.1 hf' with hf' | hf'
    · exact h.emb f' hf'
    · rw [List.mem_singleton.1 hf']; exact he
  · have hn := h.step.new s c e1 e2
    have hn' : w.heap.size + 1 ≤ c := by simpa using hn.1
    exact (h.done s c e1 e2).mono hkeep (fun _ _ e => e) (h37 c hn.2 (by omega) (h.far s c e1) (by omega))
end
end Go.Proofs.YtnmgocbmofbppaaGreatDoor
