/- of. sound. typeOf. Numbers as texts, for what errors say. -/
import Derived.Test.YtnmgocbmofbppaaGreatDoorA09
import Derived.Test.YtnmgocbmofbppaaGreatDoorA02
import Derived.Test.YtnmgocbmofbppaaGreatDoorA03
import Derived.Test.YtnmgocbmofbppaaGreatDoorShelf
import Derived.KernelRfl
import Derived.Outline
import Derived.BigGuardPart
import Derived.Deep.DeepMust
import Derived.Deep.LoopGhost
import Derived.Deep.DeepCutAuto
import Derived.Deep.CutBlock
import Derived.Deep.QuietTactic
import Derived.BigQuiet
import Derived.Lib.Hide
import Derived.WalkSpells
import Derived.Deep.Light
import Derived.Deep.RegionWith
import Derived.WalkLawsBesides
import Derived.StillTailTactics
import Derived.Laws.BytesArg
import Derived.Lib.QuoteLoop

set_option linter.unusedVariables false
set_option linter.unusedSimpArgs false

namespace Go.Proofs.YtnmgocbmofbppaaGreatDoor
open Go.RowKit

/-- What of leaves. -/
def OfPost (w : World) (B bk mn mm : Nat) (env : AL Ty) (am : Am) (left : Int) (T : Ty) (e : Ending) (w' : World) : Prop :=
  ∃ p ok L am', e = .returned (.tuple #[.pointer p, .bool ok]) ∧ MStep (fun k => k = bk ∨ k = mm) w w' B bk mn mm env am am' L ∧ L ≤ left ∧
    (ok = true → 0 ≤ L ∧ (∃ b, p = some ⟨b, 0, none⟩ ∧ RT w' (Fresh w w' am') am' T b) ∧ Dones w w' am am' env)
/-- Blocks that are there, but for the book's own, as they were. -/
theorem MStep.free {S : Nat → Prop} {w w' : World} {B bk mn mm : Nat} {env : AL Ty} {am : Am} {L : Int} (h : MPre w B bk mn mm env am L) (hx : Ext (fun _ => False) w w') : MStep S w w' B bk mn mm env am am L :=
  ⟨h.ext hx (fun _ e => e.elim), fun _ _ e => e, fun s b e1 e2 => by simp [e1] at e2, hx.mono fun _ _ e => e.elim⟩
theorem MStep.small {w w' : World} {B bk mn mm : Nat} {env : AL Ty} {am : Am} {L L2 : Int} (h : MPre w B bk mn mm env am L) (hs : SPre w' B bk mn env bk 2 L2) (hx : Ex1 bk 2 w w') : MStep (fun k => k = bk ∨ k = mm) w w' B bk mn mm env am am L2 :=
  ⟨h.small hs hx, fun _ _ e => e, fun s b e1 e2 => by simp [e1] at e2, hx.toExt.mono fun k _ e => Or.inl e⟩

set_option maxHeartbeats 1600000 in
set_option maxRecDepth 100000 in
theorem of_any {U : Lib.RTab} {B bk mn mm : Nat} {env : AL Ty} (hE : EnvOk env) (T : Ty) (w : World) (am : Am) (left : Int) (cs : List Value) (h0 : 0 ≤ left) (h1 : left ≤ 1000000) (hwf : T.wf) (hsz : T.sz ≤ 2000)
    (h : MPre w B bk mn mm env am left) (hU : Uni U B w) (hT : TyV w (· < B) T cs) : Calls Tryz.prog 24 #[.pointer (some ⟨bk, 0, none⟩), .agg cs.toArray] w (OfPost w B bk mn mm env am left T) := by
  have hT0 := hT
  obtain ⟨A, ca, D, cd, rfl, hbig⟩ := hT0.open_
  have hB := h.hB
  have hbk := h.hlt
  have hmm := h.ltm
  have hma := MStep.alloc h (fun k => k = bk ∨ k = mm) (.cells #[.int .i64 T.kind, .int .i64 T.n, .string T.s, .slice A T.of.length ca, .slice D T.fields.length cd] 26)
  have hbx := Box5'.new w (.int .i64 T.kind) (.int .i64 T.n) (.string T.s) (.slice A T.of.length ca) (.slice D T.fields.length cd) 26
  have hU1 : ∀ o, Uni U B (w.alloc o) := fun o => hU.keep ((Ext.alloc (S := fun _ => False) w o).below (fun _ e => e.elim) (by omega))
  have hT1 : ∀ o, TyV (w.alloc o) (· < B) T _ := fun o => TyV.keep (fun b hb => ⟨hb, Below.heap_alloc w o b (by omega)⟩) _ _ hT
  have HMA := Lib.hid hma
  have HBX := Lib.hid hbx
  have HU1 := Lib.hid hU1
  have HT1 := Lib.hid hT1
  have HE := Lib.hid hE
  have hmk := @run_makeMap Tryz.prog
  clear hT h hma hbx hU hU1 hT1 hE hT0
  go_enter Tryz.func24, Tryz.ntmps24
  go_wp2_with (go_at_call 30; refine (make_ok HE.out (left.toNat + 1) _ am left 0 T _ (Nat.lt_succ_self _) h1 h0 (by decide) (by decide) hwf hsz (by exact HMA.out.pre) (by exact HU1.out _) (by exact HT1.out _)).mono ?_; rintro e w2 ⟨p, r, L, am', rfl, hm, hL, hL1, hr⟩; refine Hid.out ?_)
  refine Lib.hid ?_
  have hs2 : w.heap.size < w2.heap.size := by have := hm.ext.size; simp at this; omega
  have hbx2 := HBX.out.keep (hm.ext.block w.heap.size (by simp) (by omega))
  have hm2 := HMA.out.trans hm
  have hty2 : TyV w2 (· < B) T _ := TyV.keep (fun b hb => ⟨hb, hm.ext.block b (by simp; omega) (by have := HMA.out.pre.hBm; omega)⟩) _ _ (HT1.out _)
  have ⟨g0, g1, g2, g3, g4⟩ := hbx2
  have HM2 := Lib.hid hm2
  have HM := Lib.hid hm
  have HT2 := Lib.hid hty2
  have HR := Lib.hid hr
  clear hm hm2 hty2 hbx2 hr HT1 HU1 HBX
  cases r with
  | false =>
    go_wp2
    go_ret2
    exact ⟨_, false, L, am', rfl, HM2.out, hL, fun h => nomatch h⟩
  | true =>
    obtain ⟨hL0, ⟨y, rfl, hy⟩, hd⟩ := HR.out (by trivial)
    have hb2 := HM2.out.pre.hlt
    have hm2 := HM2.out.pre.ltm
    have hn2 := HM2.out.pre.nm.ltm
    have hy2 : RT w2 (Fresh w w2 am') am' T y := RT.keep (fun i hi => ⟨hi.late (by simp), rfl⟩) (fun _ _ e => e) _ _ hy
    have hd2 : Dones w w2 am am' env := Dones.trans HMA.out HM.out (fun i hi => by omega) (fun s b e1 e2 => by simp [e1] at e2) hd
    have HY := Lib.hid hy2
    have HD := Lib.hid hd2
    have hx3 : Ext (fun _ => False) w2 (w2.alloc (.map #[] 0)) := Ext.alloc _ _
    have hlp : LPre (w2.alloc (.map #[] 0)) bk mn mm w2.heap.size env L [] :=
      ⟨⟨(World.cell?_of_block (Below.heap_alloc w2 _ bk hb2)).trans HM2.out.pre.c0, HM2.out.pre.nm.keep (Below.heap_alloc w2 _ mn hn2) fun b hb => ⟨by omega, Below.heap_alloc w2 _ b (by omega)⟩⟩, hb2, hn2, SMap.new w2, Bools.nil⟩
    have hty3 : TyV (w2.alloc (.map #[] 0)) (· < w2.heap.size) T _ := TyV.keep (fun b hb => ⟨by omega, Below.heap_alloc w2 _ b (by omega)⟩) _ _ HT2.out
    have HLP := Lib.hid hlp
    have HT3 := Lib.hid hty3
    clear hy hd hy2 hd2 hlp hty3 hx3
    go_wp2_with (go_at_call 31; refine (ends_any HE.out.wfE _ _ T (Nat.le_refl _) (Or.inl hwf) _ _ _ (Nat.le_refl _) (by exact HLP.out) HT3.out).mono ?_; rintro e w5 ⟨r, l', rfl, hm5, _, _, hg5⟩; refine Hid.out ?_)
    refine Lib.hid ?_
    have hbl5 : ∀ b, b < w2.heap.size → w5.heap[b]? = w2.heap[b]? := fun b hb => (hg5.block b (by simp; omega) (fun e => by injection e with e; omega)).trans (Below.heap_alloc w2 _ b hb)
    have hx5 : Ext (fun _ => False) w2 w5 := ⟨hg5.os, hg5.tape, hg5.output, by have := hg5.size; simp at this; omega, fun k hk _ => hbl5 k hk⟩
    have hm5 := MStep.free (S := fun k => k = bk ∨ k = mm) HM2.out.pre hx5
    have hty5 : TyV w5 (· < B) T _ := TyV.keep (fun b hb => ⟨hb, hbl5 b (by omega)⟩) _ _ HT2.out
    have hy5 := RT.step HM2.out hm5 (fun i hi => by omega) HY.out
    have hd5 := Dones.step HM2.out hm5 (fun i hi => by omega) HD.out
    have g0 : w5.cell? ⟨w.heap.size, 0, none⟩ = _ := (World.cell?_of_block (hbl5 _ hs2)).trans g0
    have g1 : w5.cell? ⟨w.heap.size, 1, none⟩ = _ := (World.cell?_of_block (hbl5 _ hs2)).trans g1
    have g2 : w5.cell? ⟨w.heap.size, 2, none⟩ = _ := (World.cell?_of_block (hbl5 _ hs2)).trans g2
    have g3 : w5.cell? ⟨w.heap.size, 3, none⟩ = _ := (World.cell?_of_block (hbl5 _ hs2)).trans g3
    have g4 : w5.cell? ⟨w.heap.size, 4, none⟩ = _ := (World.cell?_of_block (hbl5 _ hs2)).trans g4
    have HM5 := Lib.hid (HM2.out.trans hm5)
    have HT5 := Lib.hid hty5
    have HY5 := Lib.hid hy5
    have HD5 := Lib.hid hd5
    clear hbl5 hx5 hm5 hty5 hy5 hd5 hg5 HM HY HD HLP HT3 HT2
    cases r with
    | false =>
      go_wp2
      go_ret2
      exact ⟨_, false, L, am', rfl, HM5.out, hL, fun h => nomatch h⟩
    | true =>
      go_wp2_with (go_at_call 32; refine (small_any2 HE.out.wfE 1000000 T (Or.inl hwf) _ L _ hL0 (by omega) (by omega) (by exact HM5.out.pre.spre) (by exact HT5.out)).mono ?_; rintro e w6 ⟨r, L2, rfl, hsp, hL, hL2, hr, hx⟩; refine Hid.out ?_)
      refine Lib.hid ?_
      have hm6 := MStep.small HM5.out.pre hsp hx
      have hy6 := RT.step HM5.out hm6 (fun i hi => by omega) HY5.out
      have hd6 := Dones.step HM5.out hm6 (fun i hi => by omega) HD5.out
      have HM6 := Lib.hid (HM5.out.trans hm6)
      have HY6 := Lib.hid hy6
      have HD6 := Lib.hid hd6
      have HR6 := Lib.hid hr
      clear hm6 hy6 hd6 hr hsp hx
      go_wp2_with fail
      go_ret2
      exact ⟨_, r, L2, am', rfl, HM6.out, by omega, fun h => ⟨HR6.out h, ⟨y, rfl, HY6.out⟩, HD6.out⟩⟩
end Go.Proofs.YtnmgocbmofbppaaGreatDoor
namespace Go.Proofs.YtnmgocbmofbppaaGreatDoor
open Go.RowKit

/-- A counter of few cells left. -/
def Ctr (w : World) (c : Nat) : Prop := ∃ L, w.cell? ⟨c, 0, none⟩ = some (.int .i64 L) ∧ w.frozen? ⟨c, 0, none⟩ = false ∧ 0 ≤ L ∧ L ≤ 100000
theorem Ctr.keep {w w' : World} {c : Nat} (h : Ctr w c) (hb : w'.heap[c]? = w.heap[c]?) : Ctr w' c := by
  obtain ⟨L, h1, h2, h3, h4⟩ := h
  exact ⟨L, (World.cell?_of_block hb).trans h1, (World.frozen?_of_block hb).trans h2, h3, h4⟩
/-- The state in sound's loop. -/
structure SS (w wr : World) (l : AL Ty) (cb cc j : Nat) : Prop where
  ext : Ext (fun _ => False) w wr
  c1 : Ctr wr cb
  c2 : Ctr wr cc
  wy : ∀ p ∈ l.take j, WaysOk l p.2
theorem MPre.sprec {w : World} {B bk mn mm cb : Nat} {env : AL Ty} {am : Am} {left L : Int} (h : MPre w B bk mn mm env am left) (h1 : w.cell? ⟨cb, 0, none⟩ = some (.int .i64 L)) (h2 : w.frozen? ⟨cb, 0, none⟩ = false) (hb : bk ≠ cb) (hn : mn ≠ cb) (hB : B ≤ cb) :
    SPre w B bk mn env cb 0 L := ⟨h.c0, h1, h2, h.nm, hB, fun e => absurd e hb, hn, h.hlt⟩
/-- A new map of done names. -/
theorem MPre.lpre {w : World} {B bk mn mm : Nat} {env : AL Ty} {am : Am} {left L : Int} (h : MPre w B bk mn mm env am left) : LPre (w.alloc (.map #[] 0)) bk mn mm w.heap.size env L [] := by
  have hB := h.hB
  have hb := h.hlt
  have hn := h.nm.ltm
  exact ⟨⟨(World.cell?_of_block (Below.heap_alloc w _ bk hb)).trans h.c0, h.nm.keep (Below.heap_alloc w _ mn hn) fun b hb => ⟨by omega, Below.heap_alloc w _ b (by omega)⟩⟩, hb, hn, SMap.new w, Bools.nil⟩
theorem ext_map {w w' : World} (h : (w.alloc (.map #[] 0)).grownBy w' (some w.heap.size)) : Ext (fun _ => False) w w' :=
  ⟨h.os, h.tape, h.output, by have := h.size; simp at this; omega, fun k hk _ => (h.block k (by simp; omega) (fun e => by injection e with e; omega)).trans (Below.heap_alloc w _ k hk)⟩

theorem SS.start (w : World) (l : AL Ty) (o : Obj) (cb cc : Nat) (h1 : w.heap.size + 1 = cb) (h2 : w.heap.size + 1 + 1 = cc) : SS w (((w.alloc o).alloc (.cells #[.int .i64 100000] 3)).alloc (.cells #[.int .i64 100000] 3)) l cb cc 0 := by
  have s1 : (w.alloc o).heap.size = w.heap.size + 1 := by simp
  have s2 : ((w.alloc o).alloc (.cells #[.int .i64 100000] 3)).heap.size = w.heap.size + 1 + 1 := by simp
  subst h1 h2
  refine ⟨((Ext.alloc w _).trans (Ext.alloc _ _)).trans (Ext.alloc _ _), ⟨100000, by simp [go_sem], by simp [go_sem], by decide, by decide⟩, ⟨100000, by simp [go_sem], by simp [go_sem], by decide, by decide⟩, by simp⟩
/-- The box of a named type, the counters, and all old blocks. -/
structure SB (w W : World) (cb cc bx : Nat) (a0 a1 a2 a3 a4 a5 : Value) : Prop where
  ext : Ext (fun _ => False) w W
  c1 : Ctr W cb
  c2 : Ctr W cc
  bx : Box6 W bx a0 a1 a2 a3 a4 a5
theorem Box6.lt {w : World} {b : Nat} {a0 a1 a2 a3 a4 a5 : Value} (h : Box6 w b a0 a1 a2 a3 a4 a5) : b < w.heap.size := World.block_lt_of_cell? w _ h.1
theorem Ctr.lt {w : World} {c : Nat} (h : Ctr w c) : c < w.heap.size := by
  obtain ⟨L, h1, _⟩ := h
  exact World.block_lt_of_cell? w _ h1
theorem SB.keep {w W W' : World} {cb cc bx : Nat} {a0 a1 a2 a3 a4 a5 : Value} (h : SB w W cb cc bx a0 a1 a2 a3 a4 a5) (hx : Ext (fun _ => False) W W') : SB w W' cb cc bx a0 a1 a2 a3 a4 a5 :=
  ⟨h.ext.trans hx, h.c1.keep (hx.block _ h.c1.lt fun e => e), h.c2.keep (hx.block _ h.c2.lt fun e => e), h.bx.keep (hx.block _ h.bx.lt fun e => e)⟩

set_option maxHeartbeats 3200000 in
set_option maxRecDepth 100000 in
theorem sound_any {B bk mn mm : Nat} {am : Am} {left : Int} (l : AL Ty) (A : Option Addr) (ca : Nat) (T : Ty) (cs : List Value) (w : World) (h : MPre w B bk mn mm l am left) (hE : wfE l) (hl : NdV w (· < B) l A 0) (hs : NdSz l) (hlen : l.length ≤ 1000000)
    (hT : TyV w (· < B) T cs) (hwf : T.wf) :
    Calls Tryz.prog 25 #[.pointer (some ⟨bk, 0, none⟩), .slice A l.length ca, .agg cs.toArray] w fun e w' => ∃ r, e = .returned (.bool r) ∧ Ext (fun _ => False) w w' ∧ (r = true → (∀ p ∈ l, WaysOk l p.2) ∧ WaysOk l T) := by
  have hT0 := hT
  obtain ⟨A0, ca0, D0, cd0, rfl, hbig⟩ := hT0.open_
  have hB := h.hB
  have hbk := h.hlt
  have hmm := h.ltm
  have hmn := h.nm.ltm
  have H := Lib.hid h
  have HE := Lib.hid hE
  have HL := Lib.hid hl
  have HSZ := Lib.hid hs
  have HT := Lib.hid hT
  have hmk := @run_makeMap Tryz.prog
  clear h hE hl hs hT hT0
  go_enter Tryz.func25, Tryz.ntmps25
  go_upto_region 2 with fail
  obtain ⟨cb, hcb⟩ : ∃ c, w.heap.size + 1 = c := ⟨_, rfl⟩
  obtain ⟨cc, hcc⟩ : ∃ c, w.heap.size + 1 + 1 = c := ⟨_, rfl⟩
  have hst := SS.start w l (.cells #[.int .i64 T.kind, .int .i64 T.n, .string T.s, .slice A0 T.of.length ca0, .slice D0 T.fields.length cd0] 26) cb cc hcb hcc
  have hbx := ((Box5'.new w (.int .i64 T.kind) (.int .i64 T.n) (.string T.s) (.slice A0 T.of.length ca0) (.slice D0 T.fields.length cd0) 26).keep (Below.heap_alloc _ (.cells #[.int .i64 100000] 3) _ (by simp))).keep (Below.heap_alloc _ (.cells #[.int .i64 100000] 3) _ (by simp; omega))
  generalize (((w.alloc (.cells #[.int .i64 T.kind, .int .i64 T.n, .string T.s, .slice A0 T.of.length ca0, .slice D0 T.fields.length cd0] 26)).alloc (.cells #[.int .i64 100000] 3)).alloc (.cells #[.int .i64 100000] 3)) = W0 at hst hbx ⊢
  rw [hcc, hcb]
  have HST := Lib.hid hst
  have HBX := Lib.hid hbx
  clear hst hbx
  go_wp2_with fail
  go_loopw [13] (fun i wr => ∃ j : Nat, i = .int .i64 j ∧ j ≤ l.length ∧ SS w wr l cb cc j ∧ Box5' wr w.heap.size (.int .i64 T.kind) (.int .i64 T.n) (.string T.s) (.slice A0 T.of.length ca0) (.slice D0 T.fields.length cd0)) (fun i _ => l.length - (intOf i).toNat)
  case atStart => exact ⟨0, rfl, Nat.zero_le _, HST.out, HBX.out⟩
  case round =>
    clear HST HBX
    obtain ⟨j, rfl, hj, hss, hb5⟩ := hrel
    by_cases hlt : j < l.length
    · obtain ⟨p, hp⟩ : ∃ p, l[j]? = some p := ⟨_, List.getElem?_eq_getElem hlt⟩
      have hpm : p ∈ l := List.mem_of_getElem? hp
      obtain ⟨b, off, A', cA, D', cD, rfl, ha, hpz, hty, hcell⟩ := NdV.at_ HL.out hp
      have ⟨e0, e1, e2, e3, e4, e5⟩ := hcell
      rw [← World.cell?_of_block (w' := wr) (hss.ext.block b (by omega) (fun e => e))] at e0 e1 e2 e3 e4 e5
      have hbr : b < wr.heap.size := by have := hss.ext.size; omega
      have hwfp := (HSZ.out p hpm).1
      have HSS := Lib.hid hss
      have HB5 := Lib.hid hb5
      have HTY := Lib.hid hty
      have hwf14 : (Ty.mk 14 0 p.1 [] []).wf := ⟨by decide, by decide, fun _ => rfl, trivial, trivial⟩
      have hT14 : ∀ W ok, TyV W ok (Ty.mk 14 0 p.1 [] []) [.int .i64 14, .int .i64 0, .string p.1, .slice none 0 0, .slice none 0 0] := fun W ok => ⟨none, 0, none, 0, rfl, ⟨hpz, by decide, by decide⟩, trivial, trivial⟩
      have HT14 := Lib.hid hT14
      have hsb : SB w (wr.alloc (.cells #[.string p.1, .int .i64 p.2.kind, .int .i64 p.2.n, .string p.2.s, .slice A' p.2.of.length cA, .slice D' p.2.fields.length cD] 49)) cb cc wr.heap.size (.string p.1) (.int .i64 p.2.kind) (.int .i64 p.2.n) (.string p.2.s) (.slice A' p.2.of.length cA) (.slice D' p.2.fields.length cD) :=
        ⟨hss.ext.trans (Ext.alloc _ _), hss.c1.keep (Below.heap_alloc _ _ _ hss.c1.lt), hss.c2.keep (Below.heap_alloc _ _ _ hss.c2.lt), Box6.new _ _ _ _ _ _ _ _⟩
      have hb51 := hb5.keep (Below.heap_alloc wr (.cells #[.string p.1, .int .i64 p.2.kind, .int .i64 p.2.n, .string p.2.s, .slice A' p.2.of.length cA, .slice D' p.2.fields.length cD] 49) w.heap.size (World.block_lt_of_cell? wr _ hb5.1))
      obtain ⟨bx, hbx⟩ : ∃ bx, wr.heap.size = bx := ⟨_, rfl⟩
      clear hss hb5 hty hcell hT14
      go_upto_region 5 with fail
      generalize wr.alloc (.cells #[.string p.1, .int .i64 p.2.kind, .int .i64 p.2.n, .string p.2.s, .slice A' p.2.of.length cA, .slice D' p.2.fields.length cD] 49) = W1 at hsb hb51 ⊢
      have hcbx : cb < bx := by rw [← hbx]; exact HSS.out.c1.lt
      have hccx : cc < bx := by rw [← hbx]; exact HSS.out.c2.lt
      have hbxw : w.heap.size < bx := by rw [← hbx]; exact World.block_lt_of_cell? wr _ HB5.out.1
      rw [hbx] at hsb
      have hp1 := H.out.ext hsb.ext (fun _ e => e.elim)
      have HP1 := Lib.hid hp1
      have HSB := Lib.hid hsb
      have HB51 := Lib.hid hb51
      have ⟨g0, g1, g2, g3, g4, g5⟩ := hsb.bx
      clear hp1 hsb hb51 e0 e1 e2 e3 e4 e5
      go_cut [45] (fun s45 wx => ∃ q, s45 = .bool q ∧ Ext (fun _ => False) w wx ∧ (q = false → SS w wx l cb cc (j + 1) ∧ Box5' wx w.heap.size (.int .i64 T.kind) (.int .i64 T.n) (.string T.s) (.slice A0 T.of.length ca0) (.slice D0 T.fields.length cd0)))
      case first =>
        have hk := loops_any (bk := bk) (mn := mn) (mm := mm) (dn := W1.heap.size) (left := left) HE.out (undone l []) _ (Ty.mk 14 0 p.1 [] []) (Nat.le_refl _) (Or.inl hwf14) (W1.alloc (.map #[] 0)) [] _ (Nat.le_refl _) HP1.out.lpre (HT14.out _ _)
        go_wp2_with (go_at_call 33; refine hk.mono ?_; rintro e w2 ⟨r, l2, rfl, _, _, _, hg2⟩; refine Hid.out ?_)
        refine Lib.hid ?_
        have hx2 := ext_map hg2
        have hsb2 := HSB.out.keep hx2
        have hp2 := H.out.ext hsb2.ext (fun _ e => e.elim)
        have HP2 := Lib.hid hp2
        have HSB2 := Lib.hid hsb2
        have HB52 := Lib.hid (HB51.out.keep (hx2.block _ (World.block_lt_of_cell? _ _ HB51.out.1) (fun e => e)))
        have ⟨g0, g1, g2, g3, g4, g5⟩ := hsb2.bx
        clear hx2 hg2 hsb2 hp2 HP1 HSB HB51
        cases r with
        | true =>
          go_wp2
          go_meet
          exact ⟨_, rfl, HSB2.out.ext, fun h => nomatch h⟩
        | false =>
          have hk := lists_any (bk := bk) (mn := mn) (mm := mm) (dn := w2.heap.size) (left := left) HE.out (undone l []) _ (Ty.mk 14 0 p.1 [] []) (Nat.le_refl _) (Or.inl hwf14) (w2.alloc (.map #[] 0)) [] _ (Nat.le_refl _) (fun s v e => by simp [AL.get] at e) HP2.out.lpre (HT14.out _ _)
          go_wp2_with (go_at_call 34; refine hk.mono ?_; rintro e w3 ⟨r, l3, rfl, _, hg3⟩; refine Hid.out ?_)
          refine Lib.hid ?_
          have hx3 := ext_map hg3
          have hsb3 := HSB2.out.keep hx3
          have hp3 := H.out.ext hsb3.ext (fun _ e => e.elim)
          obtain ⟨L, hc, hf, hL0, hL1⟩ := hsb3.c1
          have hty3 : TyV w3 (· < B) p.2 _ := TyV.keep (fun b hb => ⟨hb, hsb3.ext.block b (by omega) (fun e => e)⟩) _ _ HTY.out
          have hsp := hp3.sprec hc hf (by omega) (by omega) (by omega)
          have HSB3 := Lib.hid hsb3
          have HSP := Lib.hid hsp
          have HT3 := Lib.hid hty3
          have HB53 := Lib.hid (HB52.out.keep (hx3.block _ (World.block_lt_of_cell? _ _ HB52.out.1) (fun e => e)))
          have ⟨g0, g1, g2, g3, g4, g5⟩ := hsb3.bx
          clear hx3 hg3 hsb3 hp3 HP2 HSB2 HB52 hsp hty3 hc hf
          cases r with
          | true =>
            go_wp2
            go_meet
            exact ⟨_, rfl, HSB3.out.ext, fun h => nomatch h⟩
          | false =>
            have hk := ways_any HE.out L.toNat p.2 (Or.inl hwfp) _ L _ (by omega) (by omega) (by omega) HSP.out HT3.out
            go_wp2_with (go_at_call 35; refine hk.mono ?_; rintro e w4 ⟨r, L2, rfl, hsp2, hL2, _, _, hr, hx4⟩; refine Hid.out ?_)
            refine Lib.hid ?_
            have hx34 : Ext (fun _ => False) w w4 := ext_step HSB3.out.ext hx4 (fun i hi => by omega)
            have hbx4 := HSB3.out.bx.keep (hx4.block _ HSB3.out.bx.lt (by omega))
            have hc24 := HSB3.out.c2.keep (hx4.block _ HSB3.out.c2.lt (by omega))
            have HB54 := Lib.hid (HB53.out.keep (hx4.block _ (World.block_lt_of_cell? _ _ HB53.out.1) (by omega)))
            have ⟨g0, g1, g2, g3, g4, g5⟩ := hbx4
            have HX4 := Lib.hid hx34
            have HR4 := Lib.hid hr
            have HSP2 := Lib.hid hsp2
            clear hx4 hx34 hbx4 hr hsp2 HSB3 HSP HB53 HT3 hk
            cases r with
            | false =>
              go_wp2
              go_meet
              exact ⟨_, rfl, HX4.out, fun h => nomatch h⟩
            | true =>
              obtain ⟨hL20, hways⟩ := HR4.out (by trivial)
              obtain ⟨M, hcM, hfM, hM0, hM1⟩ := hc24
              have hp4 := H.out.ext HX4.out (fun _ e => e.elim)
              have hcc4 : cc < w4.heap.size := World.block_lt_of_cell? _ _ hcM
              have hcb4 : cb < w4.heap.size := World.block_lt_of_cell? _ _ HSP2.out.cl
              have hn4 := hp4.nm.ltm
              have hb4 := hp4.hlt
              have hB4 := hp4.hB
              have hfp : FPre (w4.alloc (.map #[] 0)) B bk mn l cc M w4.heap.size :=
                ⟨(hp4.alloc (.map #[] 0)).sprec ((World.cell?_of_block (Below.heap_alloc w4 _ cc hcc4)).trans hcM) ((World.frozen?_of_block (Below.heap_alloc w4 _ cc hcc4)).trans hfM) (by omega) (by omega) (by omega), ⟨[], SMap.new w4, Bools.nil⟩, by omega, by omega, by omega, by omega⟩
              have hty4 : TyV (w4.alloc (.map #[] 0)) (· < B) p.2 _ := TyV.keep (fun b hb => ⟨hb, (Below.heap_alloc w4 _ b (by omega)).trans (HX4.out.block b (by omega) (fun e => e))⟩) _ _ HTY.out
              have hk := few_any HE.out M.toNat p.2 (Or.inl hwfp) _ M _ (by omega) (by omega) (by omega) hfp hty4
              have HW := Lib.hid hways
              have HP4 := Lib.hid hp4
              clear hfp hty4 hways hp4 hcM hfM
              go_wp2_with (go_at_call 36; refine hk.mono ?_; rintro e w5 ⟨r, M2, rfl, hfp2, hM2, _, hr, hx5⟩; refine Hid.out ?_)
              refine Lib.hid ?_
              have hx45 : Ext (fun k => k = cc) w4 w5 := ⟨hx5.os, hx5.tape, hx5.output, by have := hx5.size; simp at this; omega, fun k hk hn => (hx5.block k (by simp; omega) (by omega)).trans (Below.heap_alloc w4 _ k hk)⟩
              have hxw5 := ext_step HX4.out hx45 (fun i hi => by omega)
              have hb55 := HB54.out.keep (hx45.block _ (World.block_lt_of_cell? _ _ HB54.out.1) (by omega))
              have hc15 : Ctr w5 cb := Ctr.keep ⟨L2, HSP2.out.cl, HSP2.out.nf, hL20, by omega⟩ (hx45.block cb hcb4 (by omega))
              have HX5 := Lib.hid hxw5
              have HB55 := Lib.hid hb55
              have HC15 := Lib.hid hc15
              have HR5 := Lib.hid hr
              have HFP := Lib.hid hfp2
              clear hx45 hx5 hxw5 hb55 hc15 hr hfp2 g0 g1 g2 g3 g4 g5 hk
              cases r with
              | false =>
                go_wp2
                go_meet
                exact ⟨_, rfl, HX5.out, fun h => nomatch h⟩
              | true =>
                go_wp2
                go_meet
                refine ⟨_, rfl, HX5.out, fun _ => ⟨⟨HX5.out, HC15.out, ⟨M2, HFP.out.sp.cl, HFP.out.sp.nf, HR5.out (by trivial), by omega⟩, fun q hq => ?_⟩, HB55.out⟩⟩
                rw [List.take_add_one, hp] at hq
                rcases List.mem_append.1 hq with hq | hq
                · exact HSS.out.wy q hq
                · simp at hq
                  subst hq
                  exact HW.out
      case rest =>
        obtain ⟨q, rfl, hxc, hq⟩ := hcut
        have HXC := Lib.hid hxc
        clear hxc g0 g1 g2 g3 g4 g5
        cases q with
        | true =>
          go_wp2
          go_ret
          exact ⟨false, rfl, HXC.out, fun h => nomatch h⟩
        | false =>
          obtain ⟨hss, hb5⟩ := hq rfl
          have HSS2 := Lib.hid hss
          have HB52 := Lib.hid hb5
          clear hss hb5 hq
          go_wp2_with fail
          go_roundw
          case rel => exact ⟨j + 1, by go_num, by omega, HSS2.out, HB52.out⟩
          case measure => simp [intOf]; omega
    · obtain rfl : j = l.length := by omega
      have hwy := hss.wy
      rw [List.take_length] at hwy
      obtain ⟨M, hcM, hfM, hM0, hM1⟩ := hss.c2
      obtain ⟨L, hcL, hfL, hL0, hL1⟩ := hss.c1
      have hxr := hss.ext
      have hp4 := H.out.ext hxr (fun _ e => e.elim)
      have hcc4 : cc < wr.heap.size := World.block_lt_of_cell? _ _ hcM
      have hcb4 : cb < wr.heap.size := World.block_lt_of_cell? _ _ hcL
      have hn4 := hp4.nm.ltm
      have hb4 := hp4.hlt
      have hB4 := hp4.hB
      have hfp : FPre (wr.alloc (.map #[] 0)) B bk mn l cc M wr.heap.size :=
        ⟨(hp4.alloc (.map #[] 0)).sprec ((World.cell?_of_block (Below.heap_alloc wr _ cc hcc4)).trans hcM) ((World.frozen?_of_block (Below.heap_alloc wr _ cc hcc4)).trans hfM) (by omega) (by omega) (by omega), ⟨[], SMap.new wr, Bools.nil⟩, by omega, by omega, by omega, by omega⟩
      have hty4 : TyV (wr.alloc (.map #[] 0)) (· < B) T _ := TyV.keep (fun b hb => ⟨hb, (Below.heap_alloc wr _ b (by omega)).trans (hxr.block b (by omega) (fun e => e))⟩) _ _ HT.out
      have hk := few_any HE.out M.toNat T (Or.inl hwf) _ M _ (by omega) (by omega) (by omega) hfp hty4
      have HB5 := Lib.hid hb5
      have ⟨g0, g1, g2, g3, g4⟩ := hb5
      have HXR := Lib.hid hxr
      have HSS := Lib.hid hss
      have HWY := Lib.hid hwy
      have h3 : w.heap.size < wr.heap.size := World.block_lt_of_cell? _ _ hb5.1
      clear hss hb5 hfp hty4 hp4 hxr hcM hfM hcL hfL hwy
      go_wp2_with (go_at_call 36; refine hk.mono ?_; rintro e w5 ⟨r, M2, rfl, hfp2, hM2, _, _, hx5⟩; refine Hid.out ?_)
      refine Lib.hid ?_
      have hx45 : Ext (fun k => k = cc) wr w5 := ⟨hx5.os, hx5.tape, hx5.output, by have := hx5.size; simp at this; omega, fun k hk hn => (hx5.block k (by simp; omega) (by omega)).trans (Below.heap_alloc wr _ k hk)⟩
      have hxw5 := ext_step HXR.out hx45 (fun i hi => by omega)
      have hb55 := HB5.out.keep (hx45.block w.heap.size h3 (by omega))
      have HX5 := Lib.hid hxw5
      have hc15 : Ctr w5 cb := HSS.out.c1.keep (hx45.block cb hcb4 (by omega))
      have ⟨g0, g1, g2, g3, g4⟩ := hb55
      obtain ⟨L3, hc3, hf3, hL30, hL31⟩ := hc15
      have hp5 := H.out.ext hxw5 (fun _ e => e.elim)
      have hsp := hp5.sprec hc3 hf3 (by omega) (by omega) (by omega)
      have hty5 : TyV w5 (· < B) T _ := TyV.keep (fun b hb => ⟨hb, hxw5.block b (by omega) (fun e => e)⟩) _ _ HT.out
      have hk2 := soundIn_any HE.out _ T (Nat.le_refl _) (Or.inl hwf) w5 L3 _ hL30 (by omega) hsp hty5
      have hBb := hsp.hB
      clear hx5 hx45 hxw5 hb55 hfp2 hk hp5 hsp hty5 hc3 hf3
      cases r with
      | false =>
        go_wp2
        go_ret
        exact ⟨false, rfl, HX5.out, fun h => nomatch h⟩
      | true =>
        go_wp2_with (go_at_call 37; refine hk2.mono ?_; rintro e w6 ⟨r, L4, rfl, _, _, hr, hx6⟩; have HR6 := Lib.hid hr; have HX6 := Lib.hid hx6; clear hr hx6)
        go_ret
        exact ⟨r, rfl, ext_step HX5.out HX6.out (fun i hi => by omega), fun h => ⟨HWY.out, (HR6.out h).2⟩⟩
end Go.Proofs.YtnmgocbmofbppaaGreatDoor
namespace Go.Proofs.YtnmgocbmofbppaaGreatDoor
open Go.RowKit

theorem results_tmp4 {fn : Func} {t u v x : Tmp} (h : fn.results = #[.tmp t, .tmp u, .tmp v, .tmp x]) (tmps : Array Value) (P : Program) (w : World) :
    (results fn tmps).run P w = .ok (.tuple #[tmps.getD t undef, tmps.getD u undef, tmps.getD v undef, tmps.getD x undef]) w := by
  simp [results, h]
/-- Blocks from n0 on that are no named types'. -/
def Fr (n0 : Nat) (w : World) (am : Am) (k : Nat) : Prop := n0 ≤ k ∧ k < w.heap.size ∧ ∀ s, am s ≠ some k
/-- The named types' graph is whole. -/
structure Graph (n0 : Nat) (w : World) (am : Am) (l : AL Ty) : Prop where
  ok : NdOk l
  made : ∀ p ∈ l, ∃ b, am p.1 = some b
  done : ∀ s b, am s = some b → Done w (Fr n0 w am) am l s b
  new : ∀ s b, am s = some b → n0 ≤ b ∧ b < w.heap.size
  wy : ∀ p ∈ l, WaysOk l p.2
theorem Graph.keep {n0 : Nat} {w w' : World} {am : Am} {l : AL Ty} (h : Graph n0 w am l) (hx : Ext (fun _ => False) w w') : Graph n0 w' am l := by
  have hs := hx.size
  refine ⟨h.ok, h.made, fun s b e => ?_, fun s b e => ?_, h.wy⟩
  · exact Done.mono (fun i hi => ⟨⟨hi.1, by have := hi.2.1; omega, hi.2.2⟩, hx.block i hi.2.1 (fun e => e)⟩) (fun _ _ e => e) (hx.block b (h.new s b e).2 (fun e => e)) (h.done s b e)
  · have := h.new s b e; omega
theorem RT.fkeep {n0 : Nat} {w w' : World} {am : Am} {T : Ty} {y : Nat} (h : RT w (Fr n0 w am) am T y) (hx : Ext (fun _ => False) w w') : RT w' (Fr n0 w' am) am T y := by
  have hs := hx.size
  exact RT.keep (fun i hi => ⟨⟨hi.1, by have := hi.2.1; omega, hi.2.2⟩, hx.block i hi.2.1 (fun e => e)⟩) (fun _ _ e => e) _ _ h
/-- What typeOf leaves; c: it is known to succeed, if there are no named types. -/
def TypePost (c : Prop) (w : World) (l : AL Ty) (T : Ty) (e : Ending) (w' : World) : Prop :=
  ∃ p q n ok, e = .returned (.tuple #[.pointer p, .pointer q, .int .i64 n, .bool ok]) ∧ Ext (fun _ => False) w w' ∧ (c → l = [] → ok = true) ∧
    (ok = true → ∃ am n0 y, w.heap.size ≤ n0 ∧ q = some ⟨y, 0, none⟩ ∧ Graph n0 w' am l ∧ RT w' (Fr n0 w' am) am T y ∧ WaysOk l T)
/-- The contracts of of and sound at a type. -/
def OfC (U : Lib.RTab) (B : Nat) (c : Prop) (l : AL Ty) (T : Ty) (cs : List Value) : Prop :=
  ∀ (w : World) (bk mn mm : Nat) (am : Am) (left : Int), 0 ≤ left → left ≤ 100000 → MPre w B bk mn mm l am left → Uni U B w → TyV w (· < B) T cs →
    Calls Tryz.prog 24 #[.pointer (some ⟨bk, 0, none⟩), .agg cs.toArray] w fun e w' => OfPost w B bk mn mm l am left T e w' ∧ (c → left = 100000 → ∃ p, e = .returned (.tuple #[.pointer p, .bool true]))
def SoC (B : Nat) (c : Prop) (l : AL Ty) (A : Option Addr) (ca : Nat) (T : Ty) (cs : List Value) : Prop :=
  ∀ (w : World) (bk mn mm : Nat) (am : Am) (left : Int), MPre w B bk mn mm l am left → NdV w (· < B) l A 0 → TyV w (· < B) T cs →
    Calls Tryz.prog 25 #[.pointer (some ⟨bk, 0, none⟩), .slice A l.length ca, .agg cs.toArray] w fun e w' => ∃ r, e = .returned (.bool r) ∧ Ext (fun _ => False) w w' ∧ (r = true → (∀ p ∈ l, WaysOk l p.2) ∧ WaysOk l T) ∧ (c → r = true)

set_option maxHeartbeats 1600000 in
set_option maxRecDepth 100000 in
theorem typeOf_gen {U : Lib.RTab} {B : Nat} (c : Prop) (l : AL Ty) (A : Option Addr) (ca : Nat) (T : Ty) (cs : List Value) (w : World) (hB : B ≤ w.heap.size) (hU : Uni U B w) (hl : NdV w (· < B) l A 0) (hs : NdSz l) (hlen : l.length ≤ 1000000)
    (hT : TyV w (· < B) T cs) (hO : NdOk l → OfC U B c l T cs) (hS : NdOk l → SoC B c l A ca T cs) :
    Calls Tryz.prog 19 #[.slice A l.length ca, .agg cs.toArray] w (TypePost c w l T) := by
  have hT0 := hT
  obtain ⟨A0, ca0, D0, cd0, rfl, hbig⟩ := hT0.open_
  have hU1 : ∀ o, Uni U B (w.alloc o) := fun o => hU.keep ((Ext.alloc (S := fun _ => False) w o).below (fun _ e => e.elim) (by omega))
  have hl1 : ∀ o, NdV (w.alloc o) (· < B) l A 0 := fun o => NdV.keep (fun b hb => ⟨hb, Below.heap_alloc w o b (by omega)⟩) _ _ _ hl
  have hbx := Box5'.new w (.int .i64 T.kind) (.int .i64 T.n) (.string T.s) (.slice A0 T.of.length ca0) (.slice D0 T.fields.length cd0) 26
  have HU := Lib.hid hU
  have HL := Lib.hid hl
  have HT := Lib.hid hT
  have HBX := Lib.hid hbx
  have HU1 := Lib.hid hU1
  have HL1 := Lib.hid hl1
  have HO := Lib.hid hO
  have HS := Lib.hid hS
  clear hU hl hT hT0 hbx hU1 hl1 hO hS
  go_enter Tryz.func19, Tryz.ntmps19
  have hk := newBook_any l A ca (w.alloc (.cells #[.int .i64 T.kind, .int .i64 T.n, .string T.s, .slice A0 T.of.length ca0, .slice D0 T.fields.length cd0] 26)) (by simp; omega) (HU1.out _) (HL1.out _) hs hlen
  have HK0 := Lib.hid hk
  clear hk
  go_wp2_with (go_at_call 23; refine HK0.out.mono ?_; rintro e w2 ⟨p, r, rfl, hx2, hn, hr⟩; refine Hid.out ?_)
  refine Lib.hid ?_
  have hsz2 : w.heap.size < w2.heap.size := by have := hx2.size; simp at this; omega
  have hbx2 := HBX.out.keep (hx2.block w.heap.size (by simp) (fun e => e))
  have hxw := (Ext.alloc w (.cells #[.int .i64 T.kind, .int .i64 T.n, .string T.s, .slice A0 T.of.length ca0, .slice D0 T.fields.length cd0] 26)).trans hx2
  have HX2 := Lib.hid hx2
  have HXW := Lib.hid hxw
  have HR := Lib.hid hr
  have HBX2 := Lib.hid hbx2
  have ⟨g0, g1, g2, g3, g4⟩ := hbx2
  clear hx2 hxw hr hbx2 HBX HU1 HL1
  cases r with
  | false =>
    go_wp2
    (try simp only [Exit.inBlock, Exit.then]); refine bodyPost_ret (results_tmp4 rfl _ _ _) rfl ?_
    exact ⟨none, none, 0, false, rfl, HXW.out, fun _ h => by have := hn h; simp at this, fun h => nomatch h⟩
  | true =>
    obtain ⟨bk, mn, mm, am, left, w1, rfl, hgb, hgn, hgm, hbk, hle, hmade⟩ := HR.out (by trivial)
    have hgb' : w.heap.size + 1 ≤ bk := by simpa using hgb
    have hgn' : w.heap.size + 1 ≤ mn := by simpa using hgn
    have hgm' : w.heap.size + 1 ≤ mm := by simpa using hgm
    have hlb := hbk.lb
    have hlm := hbk.lm
    have hln := hbk.ln
    have hU2 : Uni U B w2 := HU.out.keep (HXW.out.below (fun _ e => e.elim) hB)
    have hty2 : TyV w2 (· < B) T _ := TyV.keep (fun b hb => ⟨hb, HXW.out.block b (by omega) (fun e => e)⟩) _ _ HT.out
    have hk := HO.out hbk.ok w2 bk mn mm am left hbk.h0 hbk.h1 hbk.step.pre hU2 hty2
    have HBK := Lib.hid hbk
    have HMD := Lib.hid hmade
    have HK := Lib.hid hk
    clear hbk hmade hU2 hty2 HR hgb hgn hgm HO hk
    have HLE := Lib.hid hle
    clear hle
    go_wp2_with (go_at_call 24; refine HK.out.mono ?_; rintro e w3 ⟨⟨p, r, L, am2, rfl, hm, hL, hr⟩, hc⟩; refine Hid.out ?_)
    refine Lib.hid ?_
    have hst3 := HBK.out.step.trans hm
    have hx3 : Ext (fun _ => False) w w3 := ext_step HXW.out hm.ext (fun i hi => by omega)
    have hbx3 := HBX2.out.keep (hm.ext.block w.heap.size hsz2 (by omega))
    have ⟨g0, g1, g2, g3, g4⟩ := hbx3
    have HM := Lib.hid hm
    have HST3 := Lib.hid hst3
    have HX3 := Lib.hid hx3
    have HR := Lib.hid hr
    have HC := Lib.hid hc
    clear hm hst3 hx3 hbx3 hr hc HBX2
    cases r with
    | false =>
      go_wp2
      (try simp only [Exit.inBlock, Exit.then]); refine bodyPost_ret (results_tmp4 rfl _ _ _) rfl ?_
      refine ⟨none, none, 0, false, rfl, HX3.out, fun h1 h2 => ?_, fun h => nomatch h⟩
      obtain ⟨q, hq⟩ := HC.out h1 (HLE.out h2)
      simp at hq
    | true =>
      obtain ⟨hL0, ⟨y, rfl, hy⟩, hd⟩ := HR.out (by trivial)
      have hd3 : Dones w1 w3 (fun _ => none) am2 l := Dones.trans HBK.out.step HM.out (fun i hi => by omega) HBK.out.dones hd
      have hty3 : TyV w3 (· < B) T _ := TyV.keep (fun b hb => ⟨hb, HX3.out.block b (by omega) (fun e => e)⟩) _ _ HT.out
      have hl3 : NdV w3 (· < B) l A 0 := NdV.keep (fun b hb => ⟨hb, HX3.out.block b (by omega) (fun e => e)⟩) _ _ _ HL.out
      have hk := HS.out HBK.out.ok w3 bk mn mm am2 L HST3.out.pre hl3 hty3
      have HY := Lib.hid hy
      have HD := Lib.hid hd3
      have HK2 := Lib.hid hk
      clear hy hd hd3 hty3 hl3 hk
      go_wp2_with (go_at_call 25; refine HK2.out.mono ?_; rintro e w4 ⟨r, rfl, hx4, hr, hc4⟩; refine Hid.out ?_)
      refine Lib.hid ?_
      have hx5 := HX3.out.trans hx4
      have hm4 := MStep.free (S := fun k => k = bk ∨ k = mm) HST3.out.pre hx4
      have hg : r = true → Graph w1.heap.size w4 am2 l ∧ RT w4 (Fr w1.heap.size w4 am2) am2 T y ∧ WaysOk l T := fun e => by
        have hst4 := HST3.out.trans hm4
        have hd4 := Dones.step HST3.out hm4 (fun i hi => by omega) HD.out
        have hy3 : RT w3 (Fresh w1 w3 am2) am2 T y := RT.keep (fun i hi => ⟨hi.late HBK.out.step.ext.size, rfl⟩) (fun _ _ e => e) _ _ HY.out
        have hy4 := RT.step HST3.out hm4 (fun i hi => by omega) hy3
        refine ⟨⟨HBK.out.ok, fun p hp => ?_, fun s b e => hd4 s b e rfl, fun s b e => hst4.new s b e rfl, (hr e).1⟩, hy4, (hr e).2⟩
        obtain ⟨b, hb⟩ := HMD.out p hp
        exact ⟨b, HM.out.sub _ _ hb⟩
      have HX5 := Lib.hid hx5
      have HG := Lib.hid hg
      have HC4 := Lib.hid hc4
      have h2 : w4.drew.cell? ⟨bk, 2, none⟩ = some (.int .i64 L) := hm4.pre.c2
      have hs1 := HXW.out.size
      have hw1 : w.heap.size ≤ w1.heap.size := by omega
      clear hx4 hx5 hm4 hr hg hc4
      cases r with
      | false =>
        go_wp2
        (try simp only [Exit.inBlock, Exit.then]); refine bodyPost_ret (results_tmp4 rfl _ _ _) rfl ?_
        refine ⟨none, none, 0, false, rfl, HX5.out, fun h1 h2 => ?_, fun h => nomatch h⟩
        have := HC4.out h1
        simp at this
      | true =>
        go_upto_region 7 with fail
        go_region
        all_goals
          go_wp2_with fail
          (try simp only [Exit.inBlock, Exit.then]); refine bodyPost_ret (results_tmp4 rfl _ _ _) rfl ?_
          obtain ⟨q1, q2, q3⟩ := HG.out (by trivial)
          exact ⟨_, _, _, true, rfl, HX5.out.drewN 1, fun _ _ => rfl, fun _ => ⟨am2, w1.heap.size, y, hw1, rfl, q1.keep ((Ext.refl _ _).drewN 1), q2.fkeep ((Ext.refl _ _).drewN 1), q3⟩⟩
theorem typeOf_any {U : Lib.RTab} {B : Nat} (l : AL Ty) (A : Option Addr) (ca : Nat) (T : Ty) (cs : List Value) (w : World) (hB : B ≤ w.heap.size) (hU : Uni U B w) (hl : NdV w (· < B) l A 0) (hs : NdSz l) (hlen : l.length ≤ 1000000)
    (hT : TyV w (· < B) T cs) (hwf : T.wf) (hsz : T.sz ≤ 2000) : Calls Tryz.prog 19 #[.slice A l.length ca, .agg cs.toArray] w (TypePost False w l T) := by
  refine typeOf_gen False l A ca T cs w hB hU hl hs hlen hT (fun hok => ?_) (fun hok => ?_)
  · intro w bk mn mm am left h0 h1 hp hu ht
    exact (of_any (hok.env hs) T w am left cs h0 (by omega) hwf hsz hp hu ht).mono fun e w' h => ⟨h, fun h => h.elim⟩
  · intro w bk mn mm am left hp hn ht
    exact (sound_any l A ca T cs w hp (hok.env hs).wfE hn hs hlen ht hwf).mono fun e w' ⟨r, h1, h2, h3⟩ => ⟨r, h1, h2, h3, fun h => h.elim⟩
end Go.Proofs.YtnmgocbmofbppaaGreatDoor
namespace Go.Proofs.YtnmgocbmofbppaaGreatDoor
open Go.RowKit

/-- A block of 64 bytes. -/
def Buf64 (w : World) (b : Nat) : Prop := ∀ i, i < 64 → ∃ x, w.cell? ⟨b, i, none⟩ = some (.int .u8 x) ∧ w.frozen? ⟨b, i, none⟩ = false
theorem Buf64.set_ {w : World} {b i : Nat} {x : Int} (h : Buf64 w b) (hi : i < 64) : Buf64 (w.setCell ⟨b, i, none⟩ (.int .u8 x)) b := by
  intro j hj
  obtain ⟨y, h1, h2⟩ := h j hj
  by_cases e : j = i
  · subst e
    exact ⟨x, World.cell?_setCell_same _ _ _ h1, (World.frozen?_setCell ..).trans h2⟩
  · exact ⟨y, (World.cell?_setCell_other w ⟨b, i, none⟩ ⟨b, j, none⟩ _ (fun e2 => by injection e2 with e3 e4; exact e e4.symm)).trans h1, (World.frozen?_setCell ..).trans h2⟩
theorem Buf64.bytes {w : World} {b o : Nat} (h : Buf64 w b) (ho : o ≤ 64) : ∃ xs : List Int, xs.length = 64 - o ∧ ∀ i, i < 64 - o → w.cell? ⟨b, o + i, none⟩ = some (.int .u8 (xs.getD i 0)) := by
  have : ∀ n, n ≤ 64 - o → ∃ xs : List Int, xs.length = n ∧ ∀ i, i < n → w.cell? ⟨b, o + i, none⟩ = some (.int .u8 (xs.getD i 0)) := by
    intro n
    induction n with
    | zero => intro _; exact ⟨[], rfl, fun i hi => by omega⟩
    | succ n ih =>
      intro hn
      obtain ⟨xs, h1, h2⟩ := ih (by omega)
      obtain ⟨y, h3, _⟩ := h (o + n) (by omega)
      refine ⟨xs ++ [y], by simp [h1], fun i hi => ?_⟩
      by_cases e : i = n
      · subst e
        rw [h3]
        simp [List.getD, ← h1]
      · rw [h2 i (by omega)]
        simp [List.getD, List.getElem?_append_left (show i < xs.length by omega)]
  exact this (64 - o) (Nat.le_refl _)

theorem Buf64.new_ {w : World} {cs : Array Value} {t : TypeId} (h : cs = Array.replicate 64 (.int .u8 0)) : Buf64 (w.alloc (.cells cs t)) w.heap.size := by
  subst h
  intro i hi
  refine ⟨0, ?_, ?_⟩
  · simp only [World.cell?, heap_alloc_new]
    simp [hi]
  · simp only [World.frozen?, heap_alloc_new]
    simp
theorem under181 : Tryz.prog.underlying 181 = some (.array (Tryz.prog.arrayLen 181) (Tryz.prog.elem 181)) := by kernel_rfl
theorem len181 : Tryz.prog.arrayLen 181 = 64 := by kernel_rfl
theorem size181 (w : World) : (sizeOf (Tryz.prog.elem 181)).run Tryz.prog w = .ok 1 w := by kernel_rfl
set_option maxHeartbeats 1600000 in
set_option maxRecDepth 100000 in
theorem FormatUint_any (u : Int) (h0 : 0 ≤ u) (h1 : u < 18446744073709551616) (w : World) :
    Calls Tryz.prog 75 #[.int .u64 u, .int .i64 10] w fun e w' => ∃ s, e = .returned (.string s) ∧ s.size ≤ 20 ∧ Below w.heap.size w w' := by
  go_enter Tryz.func75, Tryz.ntmps75
  go_upto_region 3 with fail
  go_cut [5] (fun s5 wx => s5 = .pointer (some ⟨w.heap.size, 0, none⟩) ∧ Buf64 wx w.heap.size ∧ Below w.heap.size w wx ∧ w.heap.size < wx.heap.size)
  case first =>
    go_wp2_with fail
    go_meet
    refine ⟨rfl, ?_, (Below.refl _ _).alloc (Nat.le_refl _) _, by simp⟩
    exact Buf64.new_ rfl
  case rest =>
    obtain ⟨rfl, hb, hbl, hlt⟩ := hcut
    go_wp2_with fail
    go_loopw [0, 6] (fun s0 s6 wr => ∃ (v p : Nat), s0 = .int .u64 v ∧ s6 = .int .i64 p ∧ 44 ≤ p ∧ p ≤ 64 ∧ v < 10 ^ (p - 44) ∧ v < 18446744073709551616 ∧ Buf64 wr w.heap.size ∧ Below w.heap.size w wr ∧ w.heap.size < wr.heap.size) (fun _ s6 _ => (intOf s6).toNat)
    case atStart => exact ⟨u.toNat, 64, by rw [Int.toNat_of_nonneg h0], rfl, by omega, by omega, by omega, by omega, hb, hbl, hlt⟩
    case round =>
      clear hb hbl hlt
      obtain ⟨v, p, rfl, rfl, hp0, hp1, hv, hv64, hb, hbl, hlt⟩ := hrel
      by_cases hp20 : p = 64 ∨ 0 < v
      · have hq0 : 44 < p := by
          rcases Nat.lt_or_ge 44 p with h | h
          · exact h
          · obtain rfl : p = 44 := by omega
            simp at hv; omega
        obtain ⟨p, rfl⟩ : ∃ q', p = q' + 1 := ⟨p - 1, by omega⟩
        have hv2 : v / 10 < 10 ^ (p - 44) := by rw [show p + 1 - 44 = (p - 44) + 1 by omega, Nat.pow_succ] at hv; omega
        obtain ⟨x, hc, hf⟩ := hb p (by omega)
        have HB := Lib.hid hb
        have HBL := Lib.hid hbl
        clear hb hbl
        have arm : ∀ x, Buf64 (wr.setCell ⟨w.heap.size, p, none⟩ (.int .u8 x)) w.heap.size ∧ Below w.heap.size w (wr.setCell ⟨w.heap.size, p, none⟩ (.int .u8 x)) ∧ w.heap.size < (wr.setCell ⟨w.heap.size, p, none⟩ (.int .u8 x)).heap.size := fun x =>
          ⟨HB.out.set_ (by omega), HBL.out.setCell (Nat.le_refl _) _, by simpa [World.setCell] using hlt⟩
        have ARM := Lib.hid arm
        clear arm
        by_cases h20 : p + 1 = 64
        · obtain rfl : p = 63 := by omega
          go_wp2_with fail
          go_roundw
          case rel =>
            obtain ⟨q1, q2, q3⟩ := ARM.out _
            exact ⟨v / 10, 63, by simp, rfl, by omega, by omega, hv2, by omega, q1, q2, q3⟩
          case measure => simp [intOf]
        · have hv0 : 0 < v := by omega
          go_wp2_with fail
          go_roundw
          case rel =>
            obtain ⟨q1, q2, q3⟩ := ARM.out _
            exact ⟨v / 10, p, by simp, rfl, by omega, by omega, hv2, by omega, q1, q2, q3⟩
          case measure => simp [intOf]
      · have h64 : ¬ p = 64 := fun e => hp20 (.inl e)
        obtain rfl : v = 0 := by omega
        obtain ⟨xs, hx1, hx2⟩ := hb.bytes hp1
        have hconv := run_convert_bytes_arg (P := Tryz.prog) wr 159 5 Tryz.underlying159 Tryz.underlying5 w.heap.size p (64 - p) (64 - p) xs hx1 hx2 9 Tryz.underlying9
        have hsl : (Instr.sliceAt 181 (.pointer (some ⟨w.heap.size, 0, none⟩)) (some (.int .i64 p)) none none).run Tryz.prog wr = .ok (.slice (some ⟨w.heap.size, p, none⟩) (64 - p) (64 - p)) wr := by
          rw [run_sliceAt_array_l (P := Tryz.prog) wr 181 ⟨w.heap.size, 0, none⟩ under181 .i64 p (by omega) (by rw [len181]; omega), len181, size181]
          simp only [Result.andThen, slicedAt, Int.toNat_natCast]
          rw [if_neg (fun e => h64 e.symm)]
          simp [Addr.add]
          omega
        clear hb
        go_wp2_with fail
        go_ret
        exact ⟨_, rfl, by rw [strOfNums_size, hx1]; omega, hbl⟩
theorem u64_range (n : Int) : 0 ≤ IntKind.u64.wrap n ∧ IntKind.u64.wrap n < 18446744073709551616 := by
  have : IntKind.u64.wrap n = n % 18446744073709551616 := by simp [IntKind.wrap, IntKind.bits, IntKind.signed]
  rw [this]
  omega
set_option maxHeartbeats 1600000 in
set_option maxRecDepth 100000 in
theorem FormatInt_any (n : Int) (w : World) : Calls Tryz.prog 69 #[.int .i64 n, .int .i64 10] w fun e w' => ∃ s, e = .returned (.string s) ∧ s.size ≤ 21 ∧ Below w.heap.size w w' := by
  by_cases hn : n < 0
  · go_enter Tryz.func69, Tryz.ntmps69
    go_wp2_with (go_at_call 75; refine (FormatUint_any _ (u64_range _).1 (u64_range _).2 _).mono ?_; rintro e w2 ⟨s, rfl, hs, hb⟩; have HB := Lib.hid hb; clear hb)
    go_ret
    exact ⟨_, rfl, by rw [ByteArray.size_append]; have : (⟨#[45]⟩ : ByteArray).size = 1 := rfl; omega, HB.out⟩
  · go_enter Tryz.func69, Tryz.ntmps69
    go_wp2_with (go_at_call 75; refine (FormatUint_any _ (u64_range _).1 (u64_range _).2 _).mono ?_; rintro e w2 ⟨s, rfl, hs, hb⟩; have HB := Lib.hid hb; clear hb)
    go_ret
    exact ⟨_, rfl, by omega, HB.out⟩
set_option maxHeartbeats 1600000 in
set_option maxRecDepth 100000 in
theorem Itoa_any (n : Int) (w : World) : Calls Tryz.prog 47 #[.int .i64 n] w fun e w' => ∃ s, e = .returned (.string s) ∧ s.size ≤ 21 ∧ Below w.heap.size w w' := by
  go_enter Tryz.func47, Tryz.ntmps47
  go_wp2_with (go_at_call 69; refine (FormatInt_any n w).mono ?_; rintro e w2 ⟨s, rfl, hs, hb⟩; have HB := Lib.hid hb; clear hb)
  go_ret
  exact ⟨s, rfl, hs, HB.out⟩
theorem Quote_any (T : Lib.PrintTabs) (s : ByteArray) (hs : s.size ≤ 1000000) (w : World) (hT : Lib.PrintTabsAt 9 10 11 12 T w) (hU : Lib.Utf8Tabs 6 7 w) :
    Calls Tryz.prog 48 #[.string s] w fun e w' => ∃ r, e = .returned (.string r) ∧ r.size ≤ 10 * s.size + 2 ∧ Below w.heap.size w w' :=
  (Tryz.strconv_Quote T s w (by omega) hT hU).mono fun e w' h => ⟨_, h.1, by rw [strOfNums_size]; exact Lib.quoteZ_length_le T s, h.2⟩
/-- strconv.ErrSyntax is an error. -/
def ErrS (w : World) : Prop := ∃ a : Addr, w.cell? ⟨5, 0, none⟩ = some (.iface 154 (.pointer (some a)))
/-- The tables that the printing of texts reads lie below B. -/
def Tabs (B : Nat) (w : World) : Prop := ∃ T : Lib.PrintTabs, ∀ w', Below B w w' → Lib.PrintTabsAt 9 10 11 12 T w' ∧ Lib.Utf8Tabs 6 7 w' ∧ ErrS w'
theorem Tabs.keep {B : Nat} {w w' : World} (h : Tabs B w) (hb : Below B w w') : Tabs B w' := by
  obtain ⟨T, h1⟩ := h
  exact ⟨T, fun w'' k => h1 w'' (hb.trans k)⟩
end Go.Proofs.YtnmgocbmofbppaaGreatDoor
