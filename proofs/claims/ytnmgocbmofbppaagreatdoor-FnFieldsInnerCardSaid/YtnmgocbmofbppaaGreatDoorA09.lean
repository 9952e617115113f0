/- newBook. -/
import Derived.Test.YtnmgocbmofbppaaGreatDoorA08
import Derived.KernelRfl
import Derived.Outline
import Derived.BigGuardPart
import Derived.Deep.DeepMust
import Derived.Deep.LoopGhost
import Derived.Deep.DeepCutAuto
import Derived.Deep.CutBlock
import Derived.Deep.QuietTactic
import Derived.BigQuiet
import Derived.Lib.Hide
import Derived.WalkSpells
import Derived.Deep.Light
import Derived.Deep.RegionWith
import Derived.WalkLawsBesides
import Derived.StillTailTactics

set_option linter.unusedVariables false
set_option linter.unusedSimpArgs false

namespace Go.Proofs.YtnmgocbmofbppaaGreatDoor
open Go.RowKit

section
variable {P : Program}
/-- An entry of a map's literal. -/
theorem wpList_insert_s {ops : Array Oper} {rest : List Oper} {o : Oper} {a : Act} {Q : Exit → Act → World → Prop} (w : World) (hg : o.guard = none) (m x y : Operand) (T : TypeId) (hop : o.op = Op.insert T m x y)
    (K E : TypeId) (ht : P.underlying T = some (.map K E)) (hk : P.underlying K = some .string) (l : AL Value) (r : Nat) (hm : a.eval m = .map (some r)) (h : SMap w r l) (s : ByteArray) (hx : a.eval x = .string s) (v : Value) (hy : a.eval y = v)
    (hK : ∀ w', SMap w' r (l.put s v) → w.grownBy w' (some r) → w'.heap.size = w.heap.size → wpList P ops Q rest (a.put o.dst undef) w') : wpList P ops Q (o :: rest) a w := by
  refine wpList_plain hg fun K' hK' => ?_
  obtain ⟨w', hrun, r1, r2, r3⟩ := run_mapUpdate_s ht hk h s v
  unfold Oper.wp
  simp [execOp, hop, hm, hx, hy, hrun, Result.andThen]
  exact hK' _ _ (hK w' r1 r2 r3)
end

/-- The book's blocks are new. -/
structure BookAt (w1 w : World) (B bk mn mm : Nat) (l : AL Ty) (am : Am) (left : Int) : Prop where
  step : MStep (fun k => k = bk ∨ k = mm) w1 w B bk mn mm l (fun _ => none) am left
  dones : Dones w1 w (fun _ => none) am l
  ok : NdOk l
  lb : bk < w1.heap.size
  lm : mm < w1.heap.size
  ln : mn < w1.heap.size
  h0 : 0 ≤ left
  h1 : left ≤ 100000
/-- What newBook leaves. -/
def BookPost (w : World) (B : Nat) (l : AL Ty) (e : Ending) (w' : World) : Prop :=
  ∃ p ok, e = .returned (.tuple #[.pointer p, .bool ok]) ∧ Ext (fun _ => False) w w' ∧ (l = [] → ok = true) ∧
    (ok = true → ∃ bk mn mm am left w1, p = some ⟨bk, 0, none⟩ ∧ w.heap.size ≤ bk ∧ w.heap.size ≤ mn ∧ w.heap.size ≤ mm ∧ BookAt w1 w' B bk mn mm l am left ∧ (l = [] → left = 100000) ∧ ∀ q ∈ l, ∃ b, am q.1 = some b)
theorem BookPost.bad {w w' : World} {B : Nat} {l : AL Ty} {e : Ending} {p : Option Addr} (he : e = .returned (.tuple #[.pointer p, .bool false])) (hx : Ext (fun _ => False) w w') (hl : l ≠ []) : BookPost w B l e w' :=
  ⟨p, false, he, hx, fun h => absurd h hl, fun h => nomatch h⟩
theorem ne_of_lt {α : Type} {l : List α} {j : Nat} (h : j < l.length) : l ≠ [] := fun e => by subst e; simp at h

/-- A box of six cells. -/
def Box6 (w : World) (b : Nat) (a0 a1 a2 a3 a4 a5 : Value) : Prop := w.cell? ⟨b, 0, none⟩ = some a0 ∧ w.cell? ⟨b, 1, none⟩ = some a1 ∧ w.cell? ⟨b, 2, none⟩ = some a2 ∧ w.cell? ⟨b, 3, none⟩ = some a3 ∧ w.cell? ⟨b, 4, none⟩ = some a4 ∧ w.cell? ⟨b, 5, none⟩ = some a5
theorem Box6.new (w : World) (a0 a1 a2 a3 a4 a5 : Value) (t : TypeId) : Box6 (w.alloc (.cells #[a0, a1, a2, a3, a4, a5] t)) w.heap.size a0 a1 a2 a3 a4 a5 := by
  refine ⟨?_, ?_, ?_, ?_, ?_, ?_⟩ <;> simp [go_sem]
theorem Box6.keep {w w' : World} {b : Nat} {a0 a1 a2 a3 a4 a5 : Value} (h : Box6 w b a0 a1 a2 a3 a4 a5) (hb : w'.heap[b]? = w.heap[b]?) : Box6 w' b a0 a1 a2 a3 a4 a5 := by
  obtain ⟨h0, h1, h2, h3, h4, h5⟩ := h
  exact ⟨(World.cell?_of_block hb).trans h0, (World.cell?_of_block hb).trans h1, (World.cell?_of_block hb).trans h2, (World.cell?_of_block hb).trans h3, (World.cell?_of_block hb).trans h4, (World.cell?_of_block hb).trans h5⟩

theorem ext_step {S : Nat → Prop} {w w1 w' : World} (h : Ext (fun _ => False) w w1) (k : Ext S w1 w') (hS : ∀ i, S i → w.heap.size ≤ i) : Ext (fun _ => False) w w' :=
  ⟨k.os.trans h.os, k.tape.trans h.tape, k.output.trans h.output, Nat.le_trans h.size k.size, fun i hi hn => (k.block i (Nat.lt_of_lt_of_le hi h.size) fun e => by have := hS i e; omega).trans (h.block i hi hn)⟩
/-- The names laid so far. -/
structure NB (w wr : World) (B bk mn mm : Nat) (l : AL Ty) (j : Nat) : Prop where
  pre : MPre wr B bk mn mm (l.take j) (fun _ => none) 100000
  ext : Ext (fun _ => False) w wr
  ok : NdOk (l.take j)
  gb : w.heap.size ≤ bk
  gn : w.heap.size ≤ mn
  gm : w.heap.size ≤ mm
theorem NB.start (w : World) (B : Nat) (hB : B ≤ w.heap.size) (l : AL Ty) (t : TypeId) :
    NB w (((w.alloc (.map #[] 0)).alloc (.map #[] 0)).alloc (.cells #[.map (some w.heap.size), .map (some (w.heap.size + 1)), .int .i64 100000] t)) B (w.heap.size + 1 + 1) w.heap.size (w.heap.size + 1) l 0 := by
  have s1 : (w.alloc (.map #[] 0)).heap.size = w.heap.size + 1 := by simp
  have s2 : ((w.alloc (.map #[] 0)).alloc (.map #[] 0)).heap.size = w.heap.size + 2 := by simp
  have m1 : SMap (((w.alloc (.map #[] 0)).alloc (.map #[] 0)).alloc (.cells #[.map (some w.heap.size), .map (some (w.heap.size + 1)), .int .i64 100000] t)) w.heap.size [] :=
    ((SMap.new w).keep (Below.heap_alloc _ _ _ (by omega))).keep (Below.heap_alloc _ _ _ (by omega))
  have m2 : SMap (((w.alloc (.map #[] 0)).alloc (.map #[] 0)).alloc (.cells #[.map (some w.heap.size), .map (some (w.heap.size + 1)), .int .i64 100000] t)) (w.heap.size + 1) [] := by
    have := SMap.new (w.alloc (.map #[] 0))
    rw [s1] at this
    exact this.keep (Below.heap_alloc _ _ _ (by omega))
  refine ⟨⟨by simp [go_sem], by simp [go_sem], by simp [go_sem], by simp [go_sem], ⟨[], m1, fun s => ⟨fun _ => rfl, fun T e => by simp [AL.get] at e⟩⟩, ⟨[], m2, fun s => rfl⟩, by omega, by omega, by omega, by omega, by omega, by simp, fun s b e => by cases e⟩, ?_, by simpa using NdOk.nil, by omega, by omega, by omega⟩
  exact ((Ext.alloc w _).trans (Ext.alloc _ _)).trans (Ext.alloc _ _)

set_option maxHeartbeats 1600000 in
set_option maxRecDepth 100000 in
theorem newBook_any {U : Lib.RTab} {B : Nat} (l : AL Ty) (A : Option Addr) (ca : Nat) (w : World) (hB : B ≤ w.heap.size) (hU : Uni U B w) (hl : NdV w (· < B) l A 0) (hs : NdSz l) (hlen : l.length ≤ 1000000) :
    Calls Tryz.prog 23 #[.slice A l.length ca] w (BookPost w B l) := by
  have HU := Lib.hid hU
  have HL := Lib.hid hl
  have HSZ := Lib.hid hs
  clear hU hl hs
  have hm2 := @run_makeMap Tryz.prog
  go_enter Tryz.func23, Tryz.ntmps23
  go_upto_region 2 with fail
  have hst := NB.start w B hB l 75
  generalize (((w.alloc (.map #[] 0)).alloc (.map #[] 0)).alloc (.cells #[.map (some w.heap.size), .map (some (w.heap.size + 1)), .int .i64 100000] 75)) = W0 at hst ⊢
  obtain ⟨bk, hbk⟩ : ∃ b, w.heap.size + 1 + 1 = b := ⟨_, rfl⟩
  rw [hbk] at hst ⊢
  clear hbk
  obtain ⟨mm, hmm⟩ : ∃ b, w.heap.size + 1 = b := ⟨_, rfl⟩
  rw [hmm] at hst ⊢
  clear hmm
  obtain ⟨mn, hmn⟩ : ∃ b, w.heap.size = b := ⟨_, rfl⟩
  replace hst : NB w W0 B bk mn mm l 0 := by rw [← hmn]; exact hst
  rw [hmn]
  clear hmn
  have HST := Lib.hid hst
  clear hst
  by_cases h100 : 100 < l.length
  · go_wp2
    go_ret2
    exact BookPost.bad rfl HST.out.ext (ne_of_lt h100)
  · go_wp2_with fail
    go_loopw [24] (fun i wr => ∃ j : Nat, i = .int .i64 j ∧ j ≤ l.length ∧ NB w wr B bk mn mm l j) (fun i _ => l.length - (intOf i).toNat)
    case atStart => exact ⟨0, rfl, Nat.zero_le _, HST.out⟩
    case round =>
      obtain ⟨j, rfl, hj, hnb⟩ := hrel
      clear HST
      by_cases hlt : j < l.length
      · obtain ⟨p, hp⟩ : ∃ p, l[j]? = some p := ⟨_, List.getElem?_eq_getElem hlt⟩
        obtain ⟨b, off, A', cA, D', cD, rfl, ha, hpz, hty, hcell⟩ := NdV.at_ HL.out hp
        have hbl : ∀ b, b < B → wr.heap[b]? = w.heap[b]? := fun b hb => hnb.ext.block b (by omega) (fun e => e)
        have ⟨e0, e1, e2, e3, e4, e5⟩ := hcell
        rw [← World.cell?_of_block (w' := wr) (hbl _ ha)] at e0 e1 e2 e3 e4 e5
        have hbr : b < wr.heap.size := by have := hnb.ext.size; omega
        have HNB := Lib.hid hnb
        have HTY := Lib.hid hty
        have HBL := Lib.hid hbl
        obtain ⟨q, hq⟩ : ∃ q, p.2.kind = q := ⟨_, rfl⟩
        rw [hq] at e1
        clear hnb hty hbl hcell
        by_cases hk : NdKind q
        · obtain ⟨k1, k2, k3, k4, k5, k6, k7⟩ := hk
          go_upto_region 16 with fail
          have HK : Hid (NdKind q) := ⟨k1, k2, k3, k4, k5, k6, k7⟩
          clear k1 k2 k3 k4 k5 k6 k7
          generalize (q == 14) = q14
          have hp1 := HNB.out.pre.alloc (.cells #[.string p.1, .int .i64 q, .int .i64 p.2.n, .string p.2.s, .slice A' p.2.of.length cA, .slice D' p.2.fields.length cD] 49)
          have hbx := Box6.new wr (.string p.1) (.int .i64 q) (.int .i64 p.2.n) (.string p.2.s) (.slice A' p.2.of.length cA) (.slice D' p.2.fields.length cD) 49
          have hx1 : Ext (fun _ => False) wr (wr.alloc (.cells #[.string p.1, .int .i64 q, .int .i64 p.2.n, .string p.2.s, .slice A' p.2.of.length cA, .slice D' p.2.fields.length cD] 49)) := Ext.alloc _ _
          have hz1 : (wr.alloc (.cells #[.string p.1, .int .i64 q, .int .i64 p.2.n, .string p.2.s, .slice A' p.2.of.length cA, .slice D' p.2.fields.length cD] 49)).heap.size = wr.heap.size + 1 := by simp
          generalize hW1 : wr.alloc (.cells #[.string p.1, .int .i64 q, .int .i64 p.2.n, .string p.2.s, .slice A' p.2.of.length cA, .slice D' p.2.fields.length cD] 49) = W1 at hp1 hbx hx1 hz1 ⊢
          clear hW1 e0 e1 e2 e3 e4 e5
          have c0 : W1.drew.cell? ⟨bk, 0, none⟩ = some (.map (some mn)) := hp1.c0
          have f0 : W1.drew.cell? ⟨wr.heap.size, 0, none⟩ = some (.string p.1) := hbx.1
          have f1 : ∀ o, (W1.alloc o).drew.cell? ⟨wr.heap.size, 0, none⟩ = some (.string p.1) := fun o => (World.cell?_of_block (Below.heap_alloc W1 o wr.heap.size (by omega))).trans hbx.1
          have c1 : ∀ o, (W1.alloc o).drew.cell? ⟨bk, 0, none⟩ = some (.map (some mn)) := fun o => (hp1.alloc o).c0
          obtain ⟨ln, hln, A2, ca2, D2, cb2, hval, his, hty2⟩ := hp1.nm.look p.1
          have HP1 := Lib.hid hp1
          have HBX := Lib.hid hbx
          have HX1 := Lib.hid hx1
          have HLN := Lib.hid hln
          generalize hTT : envT (l.take j) p.1 = TT at hval hty2
          have hlk : ∀ W, W.heap[mn]? = W1.heap[mn]? → (Instr.lookup 72 (.map (some mn)) (.string p.1) true).run Tryz.prog W = .ok (.tuple #[.agg #[.int .i64 TT.kind, .int .i64 TT.n, .string TT.s, .slice A2 TT.of.length ca2, .slice D2 TT.fields.length cb2], .bool (AL.get (l.take j) p.1).isSome]) W := fun W hW => by
            rw [run_lookup_s (w := W) Tryz.underlying72 Tryz.underlying9 (hln.keep hW) p.1 z26 (zero26 _) true]
            rw [hval, his]
            rfl
          have hl1 := hlk W1.drew rfl
          have hl2 := hlk (W1.alloc (.cells #[.int .i64 0, .int .i64 0, .string { data := #[] }, .slice none 0 0, .slice none 0 0] 26)).drew (Below.heap_alloc W1 _ mn hln.lt)
          clear hlk hp1 hbx hx1 hln hval his hty2
          obtain ⟨tw, htw⟩ : ∃ tw, (AL.get (l.take j) p.1).isSome = tw := ⟨_, rfl⟩
          rw [htw] at hl1 hl2
          go_cut [8] (fun s8 wx => s8 = .bool tw ∧ Ext (fun _ => False) W1 wx)
          case first =>
            go_region
            all_goals
              go_wp2_with fail
              go_meet
              exact ⟨rfl, (Ext.alloc _ _).drewN 1⟩
          case rest =>
            obtain ⟨rfl, hx2⟩ := hcut
            have hp2 := HP1.out.ext hx2 (fun _ e => e.elim)
            have hbx2 := HBX.out.keep (hx2.block wr.heap.size (by omega) (fun e => e))
            have hxw := (HNB.out.ext.trans HX1.out).trans hx2
            have hBc : B ≤ wc.heap.size := Nat.le_trans hB hxw.size
            have hU2 : Uni U B wc := HU.out.keep (hxw.below (fun _ e => e.elim) hB)
            have hty2 : TyV wc (· < B) p.2 _ := TyV.keep (fun b hb => ⟨hb, hxw.block b (by omega) (fun e => e)⟩) _ _ HTY.out
            rw [hq] at hty2
            have hs2 := hx2.size
            have hs3 : wr.heap.size < wc.heap.size := by omega
            have ⟨g0, g1, g2, g3, g4, g5⟩ := hbx2
            have HP2 := Lib.hid hp2
            have HBX2 := Lib.hid hbx2
            have HXW := Lib.hid hxw
            have HU2 := Lib.hid hU2
            have HT2 := Lib.hid hty2
            have HTW := Lib.hid htw
            clear hp2 hbx2 hxw hU2 hty2 hx2 c0 c1 f0 f1 hl1 hl2 HP1 HBX HX1 HLN htw
            go_upto_region 17 with fail
            go_cut [60] (fun s60 wx => ∃ q, s60 = .bool q ∧ Ext (fun _ => False) wc wx ∧ (q = false → tw = false ∧ p.1.size ≠ 0 ∧ p.1.size ≤ 100))
            case first =>
              cases tw with
              | true =>
                go_wp2
                go_meet
                exact ⟨_, rfl, Ext.refl _ _, fun h => nomatch h⟩
              | false =>
                go_wp2_with (go_at_call 28; refine (word_any p.1 hpz wc hBc HU2.out).mono ?_; rintro e w4 ⟨r, rfl, hr, hb4⟩; refine Hid.out ?_)
                refine Lib.hid ?_
                have HR := Lib.hid hr
                have HB4 := Lib.hid hb4
                have g0 : w4.cell? ⟨wr.heap.size, 0, none⟩ = some (.string p.1) := (World.cell?_of_block (hb4.block wr.heap.size hs3)).trans g0
                clear hr hb4
                cases r with
                | false =>
                  go_wp2
                  go_meet
                  exact ⟨_, rfl, Ext.of_below HB4.out, fun h => nomatch h⟩
                | true =>
                  go_wp2_with (go_at_call 29; refine (basic_any p.1 w4).mono ?_; rintro e w5 ⟨r, rfl, hb5⟩; have HB5 := Lib.hid hb5; clear hb5)
                  go_meet
                  exact ⟨r, rfl, (Ext.of_below HB4.out).trans (Ext.of_below HB5.out), fun _ => ⟨trivial, HR.out (by trivial)⟩⟩
            case rest =>
              obtain ⟨r, rfl, hx3, hr⟩ := hcut
              obtain ⟨W3, hW3⟩ : ∃ W3, W3 = wc := ⟨_, rfl⟩
              subst hW3
              cases r with
              | true =>
                go_wp2
                go_ret2
                exact BookPost.bad rfl (HXW.out.trans hx3) (ne_of_lt hlt)
              | false =>
                obtain ⟨rfl, hn1, hn2⟩ := hr rfl
                have hp3 := HP2.out.ext hx3 (fun _ e => e.elim)
                have hbx3 := HBX2.out.keep (hx3.block wr.heap.size hs3 (fun e => e))
                have hty3 : TyV W3 (· < B) p.2 _ := TyV.keep (fun b hb => ⟨hb, hx3.block b (by omega) (fun e => e)⟩) _ _ HT2.out
                have hxw := HXW.out.trans hx3
                have c0 : W3.drew.cell? ⟨bk, 0, none⟩ = some (.map (some mn)) := hp3.c0
                have ⟨g0, g1, g2, g3, g4, g5⟩ := hbx3
                replace g0 : W3.drew.cell? ⟨wr.heap.size, 0, none⟩ = some (.string p.1) := g0
                replace g1 : W3.drew.cell? ⟨wr.heap.size, 1, none⟩ = some (.int .i64 q) := g1
                replace g2 : W3.drew.cell? ⟨wr.heap.size, 2, none⟩ = some (.int .i64 p.2.n) := g2
                replace g3 : W3.drew.cell? ⟨wr.heap.size, 3, none⟩ = some (.string p.2.s) := g3
                replace g4 : W3.drew.cell? ⟨wr.heap.size, 4, none⟩ = some (.slice A' p.2.of.length cA) := g4
                replace g5 : W3.drew.cell? ⟨wr.heap.size, 5, none⟩ = some (.slice D' p.2.fields.length cD) := g5
                obtain ⟨ln, hln, hln2⟩ := hp3.nm
                have hnone : AL.get (l.take j) p.1 = none := by have := HTW.out; revert this; cases AL.get (l.take j) p.1 <;> simp
                have HP3 := Lib.hid hp3
                have HT3 := Lib.hid hty3
                have HXW3 := Lib.hid hxw
                have HLN := Lib.hid hln
                have HLN2 := Lib.hid hln2
                have HNO := Lib.hid hnone
                clear hp3 hbx3 hty3 hxw hln hln2 hnone hx3 hr HTW HBX2 HP2 HT2 HXW
                go_upto_region 19 with fail
                go_still_tail 8, (by kernel_rfl)
                go_wp2_with (at_mapUpdate; refine wpList_mapUpdate_s _ rfl _ _ _ 72 rfl 9 26 Tryz.underlying72 Tryz.underlying9 ln mn rfl (HLN.out.keep rfl) p.1 rfl _ rfl ?_; intro w7 hm7 hg7 hz7; refine Hid.out ?_)
                refine Lib.hid ?_
                have hp7 := MPre.def_ (p := p) HP3.out HLN2.out HNO.out HT3.out hm7 ⟨hg7.os, hg7.tape, hg7.output, hg7.size, hg7.block⟩ (by have := HNB.out.gn; omega)
                have ht7 : l.take (j + 1) = l.take j ++ [p] := by rw [List.take_add_one, hp]; rfl
                have hnb7 : NB w w7 B bk mn mm l (j + 1) := by
                  have hs7 : W3.heap.size ≤ w7.heap.size := hg7.size
                  have hs8 := HXW3.out.size
                  have hgn := HNB.out.gn
                  exact ⟨by rw [ht7]; exact hp7, ⟨Eq.trans hg7.os HXW3.out.os, Eq.trans hg7.tape HXW3.out.tape, Eq.trans hg7.output HXW3.out.output, by omega, fun k hk hn => (hg7.block k (by exact Nat.lt_of_lt_of_le hk hs8) (fun e => by injection e with e; omega)).trans (HXW3.out.block k hk hn)⟩, by rw [ht7]; exact HNB.out.ok.snoc HNO.out ⟨hn1, hn2⟩ (by rw [hq]; exact HK.out), HNB.out.gb, HNB.out.gn, HNB.out.gm⟩
                have HNB7 := Lib.hid hnb7
                clear hp7 hnb7 hm7 hg7 hz7 ht7
                go_wp2_with fail
                go_roundw
                case rel => exact ⟨j + 1, by go_num, by omega, HNB7.out⟩
                case measure => simp [intOf]; omega
        · have h7 : q = 12 ∨ q = 6 ∨ q = 7 ∨ q = 8 ∨ q = 11 ∨ q = 15 ∨ q = 14 := by unfold NdKind at hk; omega
          have hbad : ∀ o, BookPost w B l (.returned (.tuple #[.pointer none, .bool false])) (wr.alloc o) := fun o => BookPost.bad rfl (HNB.out.ext.trans (Ext.alloc _ _)) (ne_of_lt hlt)
          have HBAD := Lib.hid hbad
          clear hbad hk
          rcases h7 with rfl | rfl | rfl | rfl | rfl | rfl | rfl <;> (go_wp2; go_ret2; exact HBAD.out _)
      · obtain rfl : j = l.length := by omega
        obtain ⟨W1, hW1⟩ : ∃ W1, W1 = wr := ⟨_, rfl⟩
        subst hW1
        have hpre := hnb.pre
        have hok := hnb.ok
        rw [List.take_length] at hpre hok
        have hgb := hnb.gb
        have hgn := hnb.gn
        have hgm := hnb.gm
        have hlb := hpre.hlt
        have hlm := hpre.ltm
        have hln := hpre.nm.ltm
        have HXW := Lib.hid hnb.ext
        have HPRE := Lib.hid hpre
        have HOK := Lib.hid hok
        clear hnb hpre hok
        go_wp2_with fail
        go_loopw [72] (fun i wr => ∃ (j : Nat) (am : Am) (L : Int), i = .int .i64 j ∧ j ≤ l.length ∧ 0 ≤ L ∧ L ≤ 100000 ∧ (l = [] → L = 100000) ∧ MStep (fun k => k = bk ∨ k = mm) W1 wr B bk mn mm l (fun _ => none) am L ∧ Dones W1 wr (fun _ => none) am l ∧ ∀ q ∈ l.take j, ∃ b, am q.1 = some b) (fun i _ => l.length - (intOf i).toNat)
        case atStart => exact ⟨0, _, 100000, rfl, Nat.zero_le _, by omega, by omega, fun _ => rfl, MStep.refl HPRE.out _, Dones.refl _ _ _, by simp⟩
        case round =>
          obtain ⟨j, am, L, rfl, hj, hL0, hL1, hLe, hst, hds, hmd⟩ := hrel
          by_cases hlt : j < l.length
          · obtain ⟨p, hp⟩ : ∃ p, l[j]? = some p := ⟨_, List.getElem?_eq_getElem hlt⟩
            have hpm : p ∈ l := List.mem_of_getElem? hp
            obtain ⟨b, off, A', cA, D', cD, rfl, ha, hpz, hty, hcell⟩ := NdV.at_ HL.out hp
            have hxw : ∀ k, k < w.heap.size → wr.heap[k]? = w.heap[k]? := fun k hk => (hst.ext.block k (by have := HXW.out.size; omega) (by omega)).trans (HXW.out.block k hk (fun e => e))
            have hxx : Ext (fun _ => False) w wr := ⟨hst.ext.os.trans HXW.out.os, hst.ext.tape.trans HXW.out.tape, hst.ext.output.trans HXW.out.output, Nat.le_trans HXW.out.size hst.ext.size, fun k hk _ => hxw k hk⟩
            have ⟨e0, e1, e2, e3, e4, e5⟩ := hcell
            rw [← World.cell?_of_block (w' := wr) (hxw b (by omega))] at e0 e1 e2 e3 e4 e5
            have hbr : b < wr.heap.size := by have := hxx.size; omega
            have hbW := hst.pre.hlt
            have hmW := hst.pre.ltm
            have hnm := HOK.out.nm p hpm
            clear hLe
            have HST := Lib.hid hst
            have HDS := Lib.hid hds
            have HMD := Lib.hid hmd
            have HTY := Lib.hid hty
            have HXX := Lib.hid hxx
            clear hst hds hmd hty hxx hcell hxw
            have hwf : (Ty.mk 14 0 p.1 [] []).wf := ⟨by decide, by decide, fun _ => rfl, trivial, trivial⟩
            have hsz : (Ty.mk 14 0 p.1 [] []).sz ≤ 2000 := by simp only [Ty.sz, szs, szf]; omega
            have hE := HOK.out.env HSZ.out
            have HE := Lib.hid hE
            clear hE
            have hU1 : ∀ o, Uni U B (wr.alloc o) := fun o => HU.out.keep ((HXX.out.trans (Ext.alloc wr o)).below (fun _ e => e.elim) hB)
            have HU1 := Lib.hid hU1
            have hT14 : ∀ W, TyV W (· < B) (Ty.mk 14 0 p.1 [] []) [.int .i64 14, .int .i64 0, .string p.1, .slice none 0 0, .slice none 0 0] := fun W => ⟨none, 0, none, 0, rfl, ⟨hpz, by decide, by decide⟩, trivial, trivial⟩
            have HT14 := Lib.hid hT14
            clear hU1 hT14
            go_wp2_with (go_at_call 30; refine (make_ok HE.out (L.toNat + 1) _ am L 0 _ _ (Nat.lt_succ_self _) (by omega) hL0 (by decide) (by decide) hwf hsz (by exact HST.out.pre.alloc _) (by exact HU1.out _) (by exact HT14.out _)).mono ?_; rintro e w3 ⟨x, r, L2, am2, rfl, hm, hL2, hL3, hr⟩; refine Hid.out ?_)
            refine Lib.hid ?_
            have hm' := (MStep.alloc HST.out.pre (fun k => k = bk ∨ k = mm) (.cells #[.string p.1, .int .i64 p.2.kind, .int .i64 p.2.n, .string p.2.s, .slice A' p.2.of.length cA, .slice D' p.2.fields.length cD] 49)).trans hm
            have hm3 := HST.out.trans hm'
            have hs3 : wr.heap.size < w3.heap.size := by have := hm.ext.size; simp at this; omega
            have hbx3 := (Box6.new wr (.string p.1) (.int .i64 p.2.kind) (.int .i64 p.2.n) (.string p.2.s) (.slice A' p.2.of.length cA) (.slice D' p.2.fields.length cD) 49).keep (hm.ext.block wr.heap.size (by simp) (by omega))
            have hx3 : Ext (fun _ => False) w w3 := ext_step HXX.out hm'.ext (fun i hi => by omega)
            have hty3 : TyV w3 (· < B) p.2 _ := TyV.keep (fun b hb => ⟨hb, hx3.block b (by omega) (fun e => e)⟩) _ _ HTY.out
            have HM' := Lib.hid hm'
            have HSUB := Lib.hid hm'.sub
            have HM := Lib.hid hm
            have HM3 := Lib.hid hm3
            have HX3 := Lib.hid hx3
            have HT3 := Lib.hid hty3
            have HBX3 := Lib.hid hbx3
            have HR := Lib.hid hr
            clear hm' hm hm3 hx3 hty3 hbx3 hr e0 e1 e2 e3 e4 e5 HU1 HT14
            cases r with
            | false =>
              go_wp2
              go_ret2
              exact BookPost.bad rfl HX3.out (ne_of_lt hlt)
            | true =>
              obtain ⟨hL20, ⟨y, rfl, hy⟩, hd⟩ := HR.out (by trivial)
              unfold RT at hy
              rw [if_pos rfl] at hy
              have hds3 : Dones W1 w3 (fun _ => none) am2 l := Dones.trans HST.out HM'.out (fun i hi => by omega) HDS.out (Dones.trans (MStep.alloc HST.out.pre (fun k => k = bk ∨ k = mm) _) HM.out (fun i hi => by omega) (fun s b e1 e2 => by simp [e1] at e2) hd)
              have hb3 := HM3.out.pre.hlt
              have hm3' := HM3.out.pre.ltm
              have hn3 := HM3.out.pre.nm.ltm
              have HDS3 := Lib.hid hds3
              have HY := Lib.hid hy
              have ⟨g0, g1, g2, g3, g4, g5⟩ := HBX3.out
              clear hds3 hy hd HR HM HM'
              obtain ⟨w4, hrun, hm4, hg4, hz4⟩ := run_mapUpdate_s (P := Tryz.prog) Tryz.underlying103 Tryz.underlying9 (SMap.new w3) p.1 (.bool true)
              have hz4' : w4.heap.size = w3.heap.size + 1 := by rw [hz4]; simp
              have hbl4 : ∀ b, b < w3.heap.size → w4.heap[b]? = w3.heap[b]? := fun b hb => (hg4.block b (by simp; omega) (fun e => by injection e with e; omega)).trans (Below.heap_alloc w3 _ b hb)
              have hx4 : Ext (fun _ => False) w3 w4 := ⟨hg4.os, hg4.tape, hg4.output, by omega, fun k hk _ => hbl4 k hk⟩
              have hlp : LPre w4 bk mn mm w3.heap.size l L2 (AL.put [] p.1 (.bool true)) :=
                ⟨⟨(World.cell?_of_block (hbl4 bk hb3)).trans HM3.out.pre.c0, HM3.out.pre.nm.keep (hbl4 mn hn3) fun b hb => ⟨by have := HM3.out.pre.hB; omega, hbl4 b (by have := HM3.out.pre.hB; omega)⟩⟩, hb3, hn3, hm4, Bools.nil.put p.1 true⟩
              have hty4 : TyV w4 (· < w3.heap.size) p.2 _ := TyV.keep (fun b hb => ⟨by have := HM3.out.pre.hB; omega, hbl4 b (by have := HM3.out.pre.hB; omega)⟩) _ _ HT3.out
              have HX4 := Lib.hid hx4
              have HLP := Lib.hid hlp
              have HT4 := Lib.hid hty4
              have hwfp := (HSZ.out p hpm).1
              clear hm4 hg4 hz4 hbl4 hx4 hlp hty4
              go_wp2_with (go_at_call 31; refine (ends_any HE.out.wfE _ _ p.2 (Nat.le_refl _) (Or.inl hwfp) w4 _ _ (Nat.le_refl _) (by exact HLP.out) HT4.out).mono ?_; rintro e w5 ⟨r, l', rfl, hm5, _, _, hg5⟩; refine Hid.out ?_)
              refine Lib.hid ?_
              have hx5 : Ext (fun k => k = w3.heap.size) w4 w5 := Ext.of_grownBy hg5 rfl
              have hx35 : Ext (fun k => k = bk ∨ k = mm) w3 w5 := ⟨hx5.os.trans HX4.out.os, hx5.tape.trans HX4.out.tape, hx5.output.trans HX4.out.output, Nat.le_trans HX4.out.size hx5.size, fun k hk _ => (hx5.block k (Nat.lt_of_lt_of_le hk HX4.out.size) (by omega)).trans (HX4.out.block k hk (fun e => e))⟩
              have hm5 : MStep (fun k => k = bk ∨ k = mm) w3 w5 B bk mn mm l am2 am2 L2 := ⟨HM3.out.pre.ext (S := fun _ => False) ⟨hx35.os, hx35.tape, hx35.output, hx35.size, fun k hk _ => (hx5.block k (Nat.lt_of_lt_of_le hk HX4.out.size) (by omega)).trans (HX4.out.block k hk (fun e => e))⟩ (fun _ e => e.elim), fun _ _ e => e, fun s b e1 e2 => by simp [e1] at e2, hx35⟩
              have hst5 := HM3.out.trans hm5
              have hds5 := Dones.step HM3.out hm5 (fun i hi => by omega) HDS3.out
              have hxx5 : Ext (fun _ => False) w w5 := ext_step HX3.out hx35 (fun i hi => by omega)
              have HST5 := Lib.hid hst5
              have HDS5 := Lib.hid hds5
              have HXX5 := Lib.hid hxx5
              have HST3 := Lib.hid HM3.out
              clear hx5 hx35 hm5 hst5 hds5 hxx5 hg5 g0 g1 g2 g3 g4 g5
              cases r with
              | false =>
                go_wp2
                go_ret2
                exact BookPost.bad rfl HXX5.out (ne_of_lt hlt)
              | true =>
                go_wp2_with fail
                go_roundw
                case rel =>
                  refine ⟨j + 1, am2, L2, by go_num, by omega, hL20, by omega, fun e => absurd e (ne_of_lt hlt), HST5.out, HDS5.out, fun q hq => ?_⟩
                  rw [List.take_add_one, hp] at hq
                  rcases List.mem_append.1 hq with hq | hq
                  · obtain ⟨c, hc⟩ := HMD.out q hq
                    exact ⟨c, HSUB.out _ _ hc⟩
                  · simp at hq
                    subst hq
                    exact ⟨y, HY.out⟩
                case measure => simp [intOf]; omega
          · obtain rfl : j = l.length := by omega
            rw [List.take_length] at hmd
            have hE := HOK.out.env HSZ.out
            have HE := Lib.hid hE
            have HMD := Lib.hid hmd
            have HLE := Lib.hid hLe
            clear hE hmd hLe
            obtain ⟨W2, hW2⟩ : ∃ W2, W2 = wr := ⟨_, rfl⟩
            subst hW2
            have HST0 := Lib.hid hst
            have HDS0 := Lib.hid hds
            clear hst hds
            go_wp2_with fail
            go_loopw [100] (fun i wr => ∃ (j : Nat) (L : Int), i = .int .i64 j ∧ j ≤ l.length ∧ 0 ≤ L ∧ L ≤ 100000 ∧ (l = [] → L = 100000) ∧ MStep (fun k => k = bk ∨ k = mm) W1 wr B bk mn mm l (fun _ => none) am L ∧ Dones W1 wr (fun _ => none) am l) (fun i _ => l.length - (intOf i).toNat)
            case atStart => exact ⟨0, L, rfl, Nat.zero_le _, hL0, hL1, HLE.out, HST0.out, HDS0.out⟩
            case round =>
              clear HST0 HDS0 hL0 hL1 HLE
              obtain ⟨j, L, rfl, hj, hL0, hL1, hLe, hst, hds⟩ := hrel
              have hxw : ∀ k, k < w.heap.size → wr.heap[k]? = w.heap[k]? := fun k hk => (hst.ext.block k (by have := HXW.out.size; omega) (by omega)).trans (HXW.out.block k hk (fun e => e))
              have hxx : Ext (fun _ => False) w wr := ext_step HXW.out hst.ext (fun i hi => by omega)
              by_cases hlt : j < l.length
              · obtain ⟨p, hp⟩ : ∃ p, l[j]? = some p := ⟨_, List.getElem?_eq_getElem hlt⟩
                have hpm : p ∈ l := List.mem_of_getElem? hp
                obtain ⟨b, off, A', cA, D', cD, rfl, ha, hpz, hty, hcell⟩ := NdV.at_ HL.out hp
                have ⟨e0, e1, e2, e3, e4, e5⟩ := hcell
                rw [← World.cell?_of_block (w' := wr) (hxw b (by omega))] at e0 e1 e2 e3 e4 e5
                have hbr : b < wr.heap.size := by have := hxx.size; omega
                have hwfp := (HSZ.out p hpm).1
                have hty1 : ∀ o, TyV (wr.alloc o) (· < B) p.2 _ := fun o => TyV.keep (fun b hb => ⟨hb, ((Ext.trans hxx (Ext.alloc wr o)).block b (by omega) (fun e => e))⟩) _ _ hty
                clear hLe
                have HST := Lib.hid hst
                have HDS := Lib.hid hds
                have HTY1 := Lib.hid hty1
                have HXX := Lib.hid hxx
                clear hst hds hty hty1 hxx hcell hxw
                go_wp2_with (go_at_call 32; refine (small_any2 HE.out.wfE 1000000 p.2 (Or.inl hwfp) _ L _ hL0 (by omega) (by omega) (by exact (HST.out.pre.alloc _).spre) (by exact HTY1.out _)).mono ?_; rintro e w3 ⟨r, L2, rfl, hsp, hL, hL2, hr, hx⟩; refine Hid.out ?_)
                refine Lib.hid ?_
                have hma := MStep.alloc HST.out.pre (fun k => k = bk ∨ k = mm) (.cells #[.string p.1, .int .i64 p.2.kind, .int .i64 p.2.n, .string p.2.s, .slice A' p.2.of.length cA, .slice D' p.2.fields.length cD] 49)
                have hm3 : MStep (fun k => k = bk ∨ k = mm) wr w3 B bk mn mm l am am L2 := hma.trans ⟨hma.pre.small hsp hx, fun _ _ e => e, fun s b e1 e2 => by simp [e1] at e2, hx.toExt.mono fun k _ e => Or.inl e⟩
                have hst3 := HST.out.trans hm3
                have hds3 := Dones.step HST.out hm3 (fun i hi => by omega) HDS.out
                have hxx3 : Ext (fun _ => False) w w3 := ext_step HXX.out hm3.ext (fun i hi => by omega)
                have HST3 := Lib.hid hst3
                have HDS3 := Lib.hid hds3
                have HXX3 := Lib.hid hxx3
                have HR := Lib.hid hr
                clear hma hm3 hst3 hds3 hxx3 hr hsp hx e0 e1 e2 e3 e4 e5
                cases r with
                | false =>
                  go_wp2
                  go_ret2
                  exact BookPost.bad rfl HXX3.out (ne_of_lt hlt)
                | true =>
                  have hL20 := HR.out (by trivial)
                  go_wp2_with fail
                  go_roundw
                  case rel => exact ⟨j + 1, L2, by go_num, by omega, hL20, by omega, fun e => absurd e (ne_of_lt hlt), HST3.out, HDS3.out⟩
                  case measure => simp [intOf]; omega
              · have HST := Lib.hid hst
                have HDS := Lib.hid hds
                have HXX := Lib.hid hxx
                have HLE := Lib.hid hLe
                clear hst hds hxx hxw hLe
                go_wp2_with fail
                go_ret2
                exact ⟨_, true, rfl, HXX.out, fun _ => rfl, fun _ => ⟨bk, mn, mm, am, L, W1, rfl, hgb, hgn, hgm, ⟨HST.out, HDS.out, HOK.out, hlb, hlm, hln, hL0, hL1⟩, HLE.out, HMD.out⟩⟩
end Go.Proofs.YtnmgocbmofbppaaGreatDoor
