/- fields. -/
import Derived.Test.YtnmgocbmofbppaaGreatDoorA04
import Derived.KernelRfl
import Derived.Outline
import Derived.BigGuardPart
import Derived.Deep.DeepMust
import Derived.Deep.LoopGhost
import Derived.Deep.DeepCutAuto
import Derived.Deep.CutBlock
import Derived.Deep.QuietTactic
import Derived.BigQuiet
import Derived.Lib.Hide
import Derived.WalkSpells
import Derived.Deep.Light
import Derived.Deep.RegionWith
import Derived.WalkLawsBesides
import Derived.StillTailTactics
import Derived.Deep.RegionLaw
import Derived.Deep.RegionHeldLaw

set_option linter.unusedVariables false
set_option linter.unusedSimpArgs false

namespace Go.Proofs.YtnmgocbmofbppaaGreatDoor
open Go.RowKit

/-- A field's box, of eight cells. -/
def Box8 (w : World) (b : Nat) (a0 a1 a2 a3 a4 a5 a6 a7 : Value) : Prop := w.cell? ⟨b, 0, none⟩ = some a0 ∧ w.cell? ⟨b, 1, none⟩ = some a1 ∧ w.cell? ⟨b, 2, none⟩ = some a2 ∧ w.cell? ⟨b, 3, none⟩ = some a3 ∧ w.cell? ⟨b, 4, none⟩ = some a4 ∧ w.cell? ⟨b, 5, none⟩ = some a5 ∧ w.cell? ⟨b, 6, none⟩ = some a6 ∧ w.cell? ⟨b, 7, none⟩ = some a7
theorem Box8.new (w : World) (a0 a1 a2 a3 a4 a5 a6 a7 : Value) (t : TypeId) : Box8 (w.alloc (.cells #[a0, a1, a2, a3, a4, a5, a6, a7] t)) w.heap.size a0 a1 a2 a3 a4 a5 a6 a7 := by
  refine ⟨?_, ?_, ?_, ?_, ?_, ?_, ?_, ?_⟩ <;> simp [go_sem]
theorem Box8.keep {w w' : World} {b : Nat} {a0 a1 a2 a3 a4 a5 a6 a7 : Value} (h : Box8 w b a0 a1 a2 a3 a4 a5 a6 a7) (hb : w'.heap[b]? = w.heap[b]?) : Box8 w' b a0 a1 a2 a3 a4 a5 a6 a7 := by
  obtain ⟨h0, h1, h2, h3, h4, h5, h6, h7⟩ := h
  exact ⟨(World.cell?_of_block hb).trans h0, (World.cell?_of_block hb).trans h1, (World.cell?_of_block hb).trans h2, (World.cell?_of_block hb).trans h3, (World.cell?_of_block hb).trans h4, (World.cell?_of_block hb).trans h5, (World.cell?_of_block hb).trans h6, (World.cell?_of_block hb).trans h7⟩

theorem toList_eq {a b : ByteArray} (h : (!a.toList == b.toList) = false) : a = b := AL.beq_iff.1 (by simpa using h)
theorem embOk1 {f : Fl} (h0 : f.name.size ≠ 0) {n : Int} {s : ByteArray} {of : List Ty} {fs : List Fl} (hT : f.t = .mk 14 n s of fs) (h : (!s.toList == f.name.toList) = false) : embOk f :=
  ⟨h0, fun _ => .inl ⟨n, of, fs, by rw [hT, toList_eq h]⟩⟩
theorem embOk2 {f : Fl} (h0 : f.name.size ≠ 0) {n : Int} {s : ByteArray} {t : Ty} {fs : List Fl} (hT : f.t = .mk 12 n s [t] fs) (hk : t.kind = 14) (h : (!t.s.toList == f.name.toList) = false) : embOk f := ⟨h0, fun _ => by
  obtain ⟨k', n', s', of', fs'⟩ := t
  obtain rfl : k' = 14 := hk
  obtain rfl : s' = f.name := toList_eq h
  exact .inr ⟨n, s, fs, n', of', fs', hT⟩⟩

theorem szf_len : ∀ fs : List Fl, fs.length ≤ szf fs
  | [] => Nat.zero_le _
  | f :: fs => by
    have h1 := szf_len fs
    have h2 := f.t.sz_pos
    have h3 : f.t.sz ≤ f.sz := by
      obtain ⟨a, b, c, d⟩ := f
      simp [Fl.sz, Fl.t]
    simp only [szf, List.length_cons]
    omega
theorem info116 : (Tryz.prog.info? 116).map (fun i => (i.zero, i.size, i.bytes)) = some (some (.agg #[.string ⟨#[]⟩, .string ⟨#[]⟩, .pointer none, .bool false]), 4, 48) := by kernel_rfl

theorem fl_sz : ∀ (fs : List Fl) (j : Nat) (f : Fl), fs[j]? = some f → f.name.size + f.tag.size + f.t.sz ≤ szf fs
  | [], _, _, h => by simp at h
  | g :: fs, 0, f, h => by
    simp at h
    subst h
    obtain ⟨a, b, c, d⟩ := g
    simp [szf, Fl.sz, Fl.name, Fl.tag, Fl.t]
  | g :: fs, j + 1, f, h => by
    have := fl_sz fs j f (by simpa using h)
    simp only [szf]
    omega

set_option maxHeartbeats 1600000 in
set_option maxRecDepth 100000 in
theorem fields_any {U : Lib.RTab} {B bk mn mm x : Nat} {env : AL Ty} {N : Nat} (ih : MakeOk U B bk mn mm env N) (w : World) (am : Am) (left deep : Int) (fs : List Fl) (D : Option Addr) (cf : Nat) (hN : left.toNat < N) (hl6 : left ≤ 1000000) (hl0 : 0 ≤ left) (hd0 : 0 ≤ deep) (hd1 : deep ≤ 100)
    (h : MPre w B bk mn mm env am left) (hU : Uni U B w) (o : FOk w B bk mn mm x) (h5 : w.cell? ⟨x, 5, none⟩ = some (.slice none 0 0)) (hf5 : w.frozen? ⟨x, 5, none⟩ = false) (hfs : FlsV w (· < B) fs D 0) (hbig : fs.length ≤ 140737488351232) (hwf : wff fs) (hsz : szf fs ≤ 2000) :
    Calls Tryz.prog 58 #[.pointer (some ⟨bk, 0, none⟩), .pointer (some ⟨x, 0, none⟩), .slice D fs.length cf, .int .i64 deep] w (FieldsPost w B bk mn mm x env am left deep fs) := by
  have hst := FSt.start h o h5 fs
  have H := Lib.hid h
  have IH := Lib.hid ih
  have HU := Lib.hid hU
  have HO := Lib.hid o
  have HS := Lib.hid hst
  have HF5 := Lib.hid hf5
  clear h ih hU o h5 hf5 hst
  have hmm := @run_makeMap Tryz.prog
  go_enter Tryz.func58, Tryz.ntmps58
  go_wp2_with fail
  go_loopw [18] (fun i wr => ∃ (j : Nat) (L : Int) (am1 : Am) (seen : AL Value) (v : Value) (bs : List Nat), i = .int .i64 j ∧ j ≤ fs.length ∧ 0 ≤ L ∧ L ≤ left ∧ FSt w wr B bk mn mm x env am am1 L fs j seen v bs) (fun i _ => fs.length - (intOf i).toNat)
  case atStart => exact ⟨0, left, am, [], _, [], rfl, Nat.zero_le _, hl0, Int.le_refl _, HS.out⟩
  case round =>
    obtain ⟨j, L, am1, seen, v, bs, rfl, hj, hL0, hL, hst⟩ := hrel
    clear HS
    by_cases hlt : j < fs.length
    · obtain ⟨f, hf⟩ : ∃ f, fs[j]? = some f := ⟨_, List.getElem?_eq_getElem hlt⟩
      obtain ⟨b, off, A', ca, D', cb, rfl, ha, _, hty, hcell⟩ := FlsV.at_ hfs hf
      have hbl : ∀ b, b < B → wr.heap[b]? = w.heap[b]? := fun b hb => by
        have hlt := H.out.hlt
        have hB := H.out.hB
        have hBm := H.out.hBm
        have hBx := HO.out.hB
        exact (hst.step.ext.block b (by simp; omega) (by unfold FS; omega)).trans (Below.heap_alloc w _ b (by omega))
      have ⟨e0, e1, e2, e3, e4, e5, e6, e7⟩ := hcell
      rw [← World.cell?_of_block (w' := wr) (hbl _ ha)] at e0 e1 e2 e3 e4 e5 e6 e7
      have hbr : b < wr.heap.size := by have := hst.step.pre.hlt; have := H.out.hB; omega
      have ht1 : ∀ o, TyV (wr.alloc o) (· < B) f.t _ := fun o => TyV.keep (fun b hb => ⟨hb, (Below.heap_alloc wr o b (by have := hst.step.pre.hlt; have := H.out.hB; omega)).trans (hbl b hb)⟩) _ _ hty
      have hU1 : ∀ o, Uni U B (wr.alloc o) := fun o => HU.out.keep (by
        have h1 := hst.step.ext.size
        have hlt := H.out.hlt
        have hB := H.out.hB
        have hBm := H.out.hBm
        have hBx := HO.out.hB
        refine (Ext.below (S := FS bk mm x w.heap.size) (B := B) (((Ext.alloc w (.map #[] 0)).trans hst.step.ext).trans (Ext.alloc wr o)) (fun k hk => ?_) (by omega))
        unfold FS at hk
        omega)
      have hmem := mem_sz (List.mem_of_getElem? hf)
      have hmwf := hmem.2 hwf
      have hts : f.t.sz ≤ 2000 := by omega
      have HST := Lib.hid hst
      have HT1 := Lib.hid ht1
      have HBL := Lib.hid hbl
      have HTYW := Lib.hid hty
      have HU1 := Lib.hid hU1
      clear hst hty hcell hbl ht1 hU1
      go_upto_region 6 with (go_at_call 30; refine (IH.out _ am1 L (deep + 1) f.t _ (by omega) (by omega) hL0 (by omega) (by omega) hmwf hts (by exact HST.out.step.pre.alloc _) (by exact HU1.out _) (by exact HT1.out _)).mono ?_; rintro e w2 ⟨p, r, L2, am2, rfl, hm, hL2, hL3, hr⟩; refine Hid.out ?_)
      refine Lib.hid ?_
      have hnt := fl_sz fs j f hf
      have hm' := (MStep.alloc HST.out.step.pre (fun k => k = bk ∨ k = mm) (.cells #[.string f.name, .string f.tag, .bool f.emb, .int .i64 f.t.kind, .int .i64 f.t.n, .string f.t.s, .slice A' f.t.of.length ca, .slice D' f.t.fields.length cb] 32)).trans hm
      have c2 : w2.drew.cell? ⟨bk, 2, none⟩ = some (.int .i64 L2) := hm.pre.c2
      have nf : w2.drew.frozen? ⟨bk, 2, none⟩ = false := hm.pre.nf
      have hbkr := HST.out.step.pre.hlt
      have hmmr := HST.out.step.pre.ltm
      have hszr := hm'.ext.size
      have hszr1 : wr.heap.size < w2.heap.size := by have := hm.ext.size; simp at this; omega
      have hbox := (Box8.new wr (.string f.name) (.string f.tag) (.bool f.emb) (.int .i64 f.t.kind) (.int .i64 f.t.n) (.string f.t.s) (.slice A' f.t.of.length ca) (.slice D' f.t.fields.length cb) 32).keep (hm.ext.block wr.heap.size (by simp) (by omega))
      have f0 : w2.drew.cell? ⟨wr.heap.size, 0, none⟩ = some (.string f.name) := hbox.1
      have f1 : w2.drew.cell? ⟨wr.heap.size, 1, none⟩ = some (.string f.tag) := hbox.2.1
      have HMA := Lib.hid hm
      have HM := Lib.hid hm'
      have HBX := Lib.hid hbox
      have HR := Lib.hid hr
      clear hm hm' hbox hr e0 e1 e2 e3 e4 e5 e6 e7
      go_upto_region 6 with fail
      go_still_tail 14, (by kernel_rfl)
      go_upto_region 7 with fail
      have hLw : -2001 * (102 - (deep + 1)) - 2000 ≤ L2 - ((f.name.size : Int) + f.tag.size) ∧ L2 - ((f.name.size : Int) + f.tag.size) ≤ L2 := by omega
      generalize hL3 : L2 - ((f.name.size : Int) + f.tag.size) = L3 at hLw ⊢
      have h3 : MStep (fun k => k = bk ∨ k = mm) w2 (w2.setCell ⟨bk, 2, none⟩ (.int .i64 L3)).drew B bk mn mm env am2 am2 L3 :=
        ⟨(HM.out.pre.set_ L3).of_heap rfl, fun _ _ e => e, fun s b e1 e2 => by simp [e1] at e2, (Ext.setCell (S := fun k => k = bk ∨ k = mm) w2 (a := ⟨bk, 2, none⟩) (.inl rfl) (.int .i64 L3)).drewN 1⟩
      have hsz3 : (w2.setCell ⟨bk, 2, none⟩ (.int .i64 L3)).drew.heap.size = w2.heap.size := by simp [World.setCell, World.drew]
      generalize (w2.setCell ⟨bk, 2, none⟩ (.int .i64 L3)).drew = w3 at h3 hsz3 ⊢
      have hm3 := HM.out.trans h3
      have hbx3 := HBX.out.keep (h3.ext.block wr.heap.size hszr1 (by omega))
      have hsl : w.heap.size < wr.heap.size := HST.out.sm.lt
      have hwbk := H.out.hlt
      have hwmm := H.out.ltm
      have hsm3 : SMap w3 w.heap.size seen := HST.out.sm.keep (hm3.ext.block _ hsl (by omega))
      have hU3 : Uni U B w3 := HU.out.keep (by
        have h1 := HST.out.step.ext.size
        have hB := H.out.hB
        have hBm := H.out.hBm
        have hBx := HO.out.hB
        refine (Ext.below (S := FS bk mm x w.heap.size) (B := B) (((Ext.alloc w (.map #[] 0)).trans HST.out.step.ext).trans (hm3.ext.mono fun k _ hk => by unfold FS; omega)) (fun k hk => ?_) (by omega))
        unfold FS at hk
        omega)
      have c2' := hm3.pre.c2
      have ⟨f0, f1, f2, f3, f4, f5, f6, f7⟩ := hbx3
      have HM3 := Lib.hid hm3
      have H3 := Lib.hid h3
      have HBX3 := Lib.hid hbx3
      have HSM3 := Lib.hid hsm3
      have HU3 := Lib.hid hU3
      clear hm3 h3 hbx3 hsm3 hU3 c2 nf
      go_cut [65] (fun s65 wx => ∃ q, s65 = .bool q ∧ MStep (fun k => k = bk ∨ k = mm) wr wx B bk mn mm env am1 am2 L3 ∧ MStep (fun k => k = bk ∨ k = mm) w2 wx B bk mn mm env am2 am2 L3 ∧ (q = false → r = true ∧ 0 ≤ L3 ∧ seen.get f.name = none ∧ f.name.size ≠ 0) ∧ Uni U B wx)
      case first =>
        cases r with
        | false =>
          go_wp2
          go_meet
          exact ⟨true, rfl, HM3.out, H3.out, (fun h => nomatch h), HU3.out⟩
        | true =>
          by_cases hl3 : L3 < 0
          · have hd3 : decide (L3 < 0) = true := decide_eq_true hl3
            go_wp2
            go_meet
            exact ⟨true, rfl, HM3.out, H3.out, (fun h => nomatch h), HU3.out⟩
          · have hd3 : decide (L3 < 0) = false := decide_eq_false hl3
            have hBs : B ≤ w3.heap.size := by have := H.out.hB; omega
            go_wp2_with (go_at_call 28; refine (word_any f.name (by omega) w3 hBs HU3.out).mono ?_; rintro e w4 ⟨q, rfl, hwq, hb4⟩; refine Hid.out ?_)
            refine Lib.hid ?_
            have h34 := MStep.below H3.out.pre (fun k => k = bk ∨ k = mm) hb4
            have hU4 := HU3.out.keep (hb4.mono hBs)
            have hs4 := HSM3.out.keep (hb4.block _ HSM3.out.lt)
            have hf0 : w4.cell? ⟨wr.heap.size, 0, none⟩ = some (.string f.name) := (World.cell?_of_block (hb4.block wr.heap.size (by omega))).trans HBX3.out.1
            have hlk : (Instr.lookup 103 (.map (some w.heap.size)) (.string f.name) false).run Tryz.prog w4 = .ok ((seen.get f.name).getD (.bool false)) w4 := by
              rw [run_lookup_s Tryz.underlying103 Tryz.underlying9 hs4 f.name (.bool false) (zero4 _) false]
              rfl
            have H34 := Lib.hid h34
            have HU4 := Lib.hid hU4
            have HWQ := Lib.hid hwq
            clear h34 hU4 hs4 hb4 hwq
            cases q with
            | false =>
              go_wp2
              go_meet
              exact ⟨true, rfl, HM3.out.trans H34.out, H3.out.trans H34.out, (fun h => nomatch h), HU4.out⟩
            | true =>
              by_cases hin : f.name ∈ (fs.take j).map Fl.name
              · rw [(HST.out.seen_ _).1 hin] at hlk
                have hlk : (Instr.lookup 103 (.map (some w.heap.size)) (.string f.name) false).run Tryz.prog w4 = .ok (.bool true) w4 := hlk
                go_wp2
                go_meet
                exact ⟨true, rfl, HM3.out.trans H34.out, H3.out.trans H34.out, (fun h => nomatch h), HU4.out⟩
              · have hn := (HST.out.seen_ _).2 hin
                rw [hn] at hlk
                have hlk : (Instr.lookup 103 (.map (some w.heap.size)) (.string f.name) false).run Tryz.prog w4 = .ok (.bool false) w4 := hlk
                go_wp2
                go_meet
                exact ⟨false, rfl, HM3.out.trans H34.out, H3.out.trans H34.out, fun _ => ⟨trivial, by omega, hn, (HWQ.out (by trivial)).1⟩, HU4.out⟩
      case rest =>
        obtain ⟨q, rfl, hm5, h25, hq, hU5⟩ := hcut
        have HM5 := Lib.hid hm5
        have H25 := Lib.hid h25
        have HQ := Lib.hid hq
        have HU5 := Lib.hid hU5
        clear hm5 h25 hq hU5 HM3 H3 HBX3 HSM3 HU3 f0 f1 f2 f3 f4 f5 f6 f7 c2' hsz3
        cases q with
        | true =>
          go_wp2
          go_ret
          exact HST.out.bad rfl HO.out HM5.out (by omega) (by omega)
        | false =>
          obtain ⟨rfl, hL30, hns, hn0⟩ := HQ.out rfl
          obtain ⟨W5, hW5⟩ : ∃ W5, W5 = wc := ⟨_, rfl⟩
          subst hW5
          obtain ⟨_, ⟨y, rfl, hy⟩, hd⟩ := HR.out (by trivial)
          have hd2 : Dones wr W5 am1 am2 env := Dones.step HM.out H25.out (fun i hi => by omega) (Dones.trans (MStep.alloc HST.out.step.pre (fun k => k = bk ∨ k = mm) _) HMA.out (fun i hi => by omega) (fun s b e1 e2 => by simp [e1] at e2) hd)
          have hst5 := HST.out.go HO.out HM5.out hd2
          have hy5 : RT W5 (FreshV (wM w) W5 am2 v) am2 f.t y := RT.keep (fun i hi => by
            have h1 := hi.1
            have h2 := hi.2.1
            have h3 := H25.out.ext.size
            simp at h1
            refine ⟨⟨⟨by simp; omega, by omega, hi.2.2⟩, fun e => ?_⟩, H25.out.ext.block i h2 (by omega)⟩
            have := (own_lt HST.out.own e).2
            omega) (fun _ _ e => e) _ _ hy
          have hbx5 := HBX.out.keep (H25.out.ext.block wr.heap.size hszr1 (by omega))
          have hs5 : wr.heap.size < W5.heap.size := Nat.lt_of_lt_of_le hszr1 H25.out.ext.size
          have hcm := hst5.step.pre.hlt
          have hty5 : TyV W5 (· < B) f.t _ := TyV.keep (fun b hb => ⟨hb, ((HM.out.trans H25.out).ext.block b (by have := H.out.hB; omega) (by have := H.out.hB; have := H.out.hBm; omega)).trans (HBL.out b hb)⟩) _ _ HTYW.out
          have ⟨f0, f1, f2, f3, f4, f5, f6, f7⟩ := hbx5
          have HST5 := Lib.hid hst5
          have HY5 := Lib.hid hy5
          have HBX5 := Lib.hid hbx5
          clear hd hd2 hst5 hy5 hbx5 hy HM HM5 H25 HQ HR HMA HBX HT1 HU1
          go_upto_if 67 with fail
          go_cut [] (fun wx => embOk f ∧ Ext (fun _ => False) W5 wx)
          case first =>
            clear HY5 HBX5 HBL HTYW hns
            cases he : f.emb with
            | false =>
              rw [he] at f2
              go_wp2
              go_meet
              exact ⟨⟨hn0, fun e => by simp [he] at e⟩, Ext.refl _ _⟩
            | true =>
              rw [he] at f2
              obtain ⟨k, n, s, of, fs', hT⟩ : ∃ k n s of fs', f.t = .mk k n s of fs' := by cases f.t; exact ⟨_, _, _, _, _, rfl⟩
              rw [hT] at f3 f4 f5 f6 f7 hty5 hmwf
              replace f3 : W5.cell? ⟨wr.heap.size, 3, none⟩ = some (.int .i64 k) := f3
              replace f4 : W5.cell? ⟨wr.heap.size, 4, none⟩ = some (.int .i64 n) := f4
              replace f5 : W5.cell? ⟨wr.heap.size, 5, none⟩ = some (.string s) := f5
              replace f6 : W5.cell? ⟨wr.heap.size, 6, none⟩ = some (.slice A' of.length ca) := f6
              replace f7 : W5.cell? ⟨wr.heap.size, 7, none⟩ = some (.slice D' fs'.length cb) := f7
              by_cases h12 : k = 12
              · subst h12
                obtain ⟨t', rfl, hw'⟩ := wf_of_ptr (Or.inl hmwf) (by omega)
                obtain ⟨_, _, _, _, e5, hbig5, hof, _⟩ := hty5
                injection e5 with _ e5
                injection e5 with _ e5
                injection e5 with _ e5
                injection e5 with e5 _
                injection e5 with e5 _ _
                subst e5
                obtain ⟨b', off', A2, ca2, D2, cb2, rfl, ha2, _, hc2⟩ := TysV.at_ (j := 0) hof rfl
                simp only [Nat.zero_mul, Nat.add_zero] at hc2
                have hb2 : b' < W5.heap.size := by have := H.out.hB; omega
                obtain ⟨g0, g1, g2, g3, g4⟩ := hc2
                by_cases hq1 : t'.kind = 14
                · go_wp2
                  all_goals first
                    | (go_ret; exact HST5.out.bad rfl HO.out (MStep.alloc HST5.out.step.pre _ _) (by omega) (by omega))
                    | (go_meet; exact ⟨embOk2 hn0 hT hq1 (by assumption), Ext.alloc _ _⟩)
                · go_wp2
                  all_goals first
                    | exact (hq1 (by assumption)).elim
                    | (go_ret; exact HST5.out.bad rfl HO.out (MStep.alloc HST5.out.step.pre _ _) (by omega) (by omega))
              · by_cases hq1 : k = 14
                · subst hq1
                  go_wp2
                  all_goals first
                    | (go_ret; exact HST5.out.bad rfl HO.out (MStep.alloc HST5.out.step.pre _ _) (by omega) (by omega))
                    | (go_meet; exact ⟨embOk1 hn0 hT (by assumption), Ext.alloc _ _⟩)
                · go_wp2
                  all_goals first
                    | exact (hq1 (by assumption)).elim
                    | (go_ret; exact HST5.out.bad rfl HO.out (MStep.alloc HST5.out.step.pre _ _) (by omega) (by omega))
          case rest =>
            obtain ⟨hemb, hx6⟩ := hcut
            have hmc : MStep (fun k => k = bk ∨ k = mm) W5 wc B bk mn mm env am2 am2 L3 := ⟨HST5.out.step.pre.ext hx6 (fun _ e => e.elim), fun _ _ e => e, fun s b e1 e2 => by simp [e1] at e2, hx6.mono fun _ _ e => e.elim⟩
            have hst6 := HST5.out.go HO.out hmc (fun s b e1 e2 => by simp [e1] at e2)
            have hy6 : RT wc (FreshV (wM w) wc am2 v) am2 f.t y := RT.keep (fun i hi => ⟨⟨hi.1.trans HST5.out.step hmc, hi.2⟩, hx6.block i hi.1.2.1 (fun e => e)⟩) (fun _ _ e => e) _ _ HY5.out
            have hbx6 := HBX5.out.keep (hx6.block wr.heap.size hs5 (fun e => e))
            have hs6 : wr.heap.size < wc.heap.size := Nat.lt_of_lt_of_le hs5 hx6.size
            have hxr : x < w.heap.size := HO.out.hx
            have hq0 := hbx6.1
            have HST6 := Lib.hid hst6
            have HY6 := Lib.hid hy6
            have HBX6 := Lib.hid hbx6
            clear f0 f1 f2 f3 f4 f5 f6 f7 hty5 HBL HTYW hx6 hmc hst6 hy6 hbx6 HST5 HY5 HBX5
            go_wp2_with (at_mapUpdate; refine wpList_mapUpdate_s _ rfl _ _ _ 103 rfl 9 4 Tryz.underlying103 Tryz.underlying9 seen w.heap.size rfl HST6.out.sm f.name rfl (.bool true) rfl ?_; intro w7 hm7 hg7 hz7; refine Hid.out ?_)
            refine Lib.hid ?_
            have k7 : ∀ i, i < wc.heap.size → i ≠ w.heap.size → w7.heap[i]? = wc.heap[i]? := fun i h1 h2 => hg7.block i h1 (fun e => by injection e with e; exact h2 e)
            have q5 : w7.drew.cell? ⟨x, 5, none⟩ = some v := (World.cell?_of_block (k7 x (by omega) (by omega))).trans HST6.out.c5
            have qf : w7.drew.frozen? ⟨x, 5, none⟩ = false := ((World.frozen?_of_block (k7 x (by omega) (by omega))).trans (HST6.out.fz 5)).trans HF5.out
            have hbx7 := HBX6.out.keep (k7 wr.heap.size hs6 (by omega))
            have f0 : w7.drew.cell? ⟨wr.heap.size, 0, none⟩ = some (.string f.name) := hbx7.1
            have f1 : w7.drew.cell? ⟨wr.heap.size, 1, none⟩ = some (.string f.tag) := hbx7.2.1
            have f2 : w7.drew.cell? ⟨wr.heap.size, 2, none⟩ = some (.bool f.emb) := hbx7.2.2.1
            have hown7 : w7.drew.ownsRow (w.heap.size + 1) 116 4 v j (fcells (fs.take j) bs) := own_kept HST6.out.own fun g e => k7 g (own_lt HST6.out.own e).2 (by have := (own_lt HST6.out.own e).1; omega)
            have HOWN := Lib.hid hown7
            have HM7 := Lib.hid hm7
            have HG7 := Lib.hid hg7
            obtain ⟨i0, hi, hz0, hz1, hz2⟩ := info_parts info116
            clear hm7 hg7 hbx7 hown7 k7
            go_upto_region 16 with fail
            have hl2 := szf_len fs
            have hw7 : w7.drew.heap.size = w7.heap.size := rfl
            have hsw7 : w.heap.size + 1 ≤ w7.heap.size := by omega
            have hx7 : x < w7.heap.size := by omega
            have hx7' : x < w7.drew.heap.size := by omega
            have hq7 : ∀ o, (w7.alloc o).cell? ⟨x, 5, none⟩ = some v := fun o => (World.cell?_of_block (Below.heap_alloc w7 o x hx7)).trans q5
            have hwr7 : wr.heap.size < w7.heap.size := by omega
            have hb0 : ∀ o, (w7.alloc o).drew.cell? ⟨wr.heap.size, 0, none⟩ = some (.string f.name) := fun o => (World.cell?_of_block (Below.heap_alloc w7 o wr.heap.size hwr7)).trans f0
            have hb1 : ∀ o, (w7.alloc o).drew.cell? ⟨wr.heap.size, 1, none⟩ = some (.string f.tag) := fun o => (World.cell?_of_block (Below.heap_alloc w7 o wr.heap.size hwr7)).trans f1
            have hb2 : ∀ o, (w7.alloc o).drew.cell? ⟨wr.heap.size, 2, none⟩ = some (.bool f.emb) := fun o => (World.cell?_of_block (Below.heap_alloc w7 o wr.heap.size hwr7)).trans f2
            have hnx : wr.heap.size ≠ x := by omega
            have hvo : v.ownBlock ≠ some wr.heap.size := fun e => by have := (own_lt HST.out.own e).2; omega
            refine wp_region_held_drew (S := (fun w' => w'.cell? ⟨wr.heap.size, 0, none⟩ = some (.string f.name) ∧ w'.cell? ⟨wr.heap.size, 1, none⟩ = some (.string f.tag) ∧ w'.cell? ⟨wr.heap.size, 2, none⟩ = some (.bool f.emb))) (by kernel_rfl) ?_ (fun hHeldq => ?_)
            · (try dsimp only); exact ⟨f0, f1, f2⟩
            refine wpAnyH_take (i := 0) (oi := _) (v := ?_) rfl (by kernel_rfl) (by kernel_rfl) (by kernel_rfl) (fun _ _ _ h => h) (Or.inl ⟨by rfl, ?_⟩) (by assumption) ?_
            rotate_left
            · (intro wq hSwq; (try dsimp only at hSwq); go_simp; (try with_reducible rfl))
            try simp only [Act.put, List.getElem_toArray, List.getElem_cons_zero, List.getElem_cons_succ, List.setIfInBounds_toArray, List.set_cons_zero, List.set_cons_succ]
            refine wpAnyH_take (i := 1) (oi := _) (v := ?_) rfl (by kernel_rfl) (by kernel_rfl) (by kernel_rfl) (fun _ _ _ h => h) (Or.inl ⟨by rfl, ?_⟩) (by assumption) ?_
            rotate_left
            · (intro wq hSwq; (try dsimp only at hSwq); go_simp; (try with_reducible rfl))
            try simp only [Act.put, List.getElem_toArray, List.getElem_cons_zero, List.getElem_cons_succ, List.setIfInBounds_toArray, List.set_cons_zero, List.set_cons_succ]
            refine wpAnyH_take (i := 2) (oi := _) (v := ?_) rfl (by kernel_rfl) (by kernel_rfl) (by kernel_rfl) (fun _ _ _ h => h) (Or.inl ⟨by rfl, ?_⟩) (by assumption) ?_
            rotate_left
            · (intro wq hSwq; (try dsimp only at hSwq); go_simp; (try with_reducible rfl))
            try simp only [Act.put, List.getElem_toArray, List.getElem_cons_zero, List.getElem_cons_succ, List.setIfInBounds_toArray, List.set_cons_zero, List.set_cons_succ]
            refine wpAnyH_take (i := 3) (oi := _) (v := ?_) rfl (by kernel_rfl) (by kernel_rfl) (by kernel_rfl) (fun _ _ _ h => h) (Or.inl ⟨by rfl, ?_⟩) (by assumption) ?_
            rotate_left
            · (intro wq hSwq; (try dsimp only at hSwq); go_simp; (try with_reducible rfl))
            try simp only [Act.put, List.getElem_toArray, List.getElem_cons_zero, List.getElem_cons_succ, List.setIfInBounds_toArray, List.set_cons_zero, List.set_cons_succ]
            refine wpAnyH_take (i := 5) (oi := _) (v := ?_) rfl (by kernel_rfl) (by kernel_rfl) (by kernel_rfl) (fun _ _ _ h => h) (Or.inl ⟨by rfl, ?_⟩) (by assumption) ?_
            rotate_left
            · (intro wq hSwq; (try dsimp only at hSwq); go_simp; (try with_reducible rfl))
            try simp only [Act.put, List.getElem_toArray, List.getElem_cons_zero, List.getElem_cons_succ, List.setIfInBounds_toArray, List.set_cons_zero, List.set_cons_succ]
            refine wpAnyH_take (i := 6) (oi := _) (v := ?_) rfl (by kernel_rfl) (by kernel_rfl) (by kernel_rfl) (fun _ _ _ h => h) (Or.inl ⟨by rfl, ?_⟩) (by assumption) ?_
            rotate_left
            · (intro wq hSwq; (try dsimp only at hSwq); go_simp; (try with_reducible rfl))
            try simp only [Act.put, List.getElem_toArray, List.getElem_cons_zero, List.getElem_cons_succ, List.setIfInBounds_toArray, List.set_cons_zero, List.set_cons_succ]
            refine wpAnyH_take (i := 7) (oi := _) (v := ?_) rfl (by kernel_rfl) (by kernel_rfl) (by kernel_rfl) (fun _ _ _ h => h) (Or.inl ⟨by rfl, ?_⟩) (by assumption) ?_
            rotate_left
            · (intro wq hSwq; (try dsimp only at hSwq); go_simp; (try with_reducible rfl))
            try simp only [Act.put, List.getElem_toArray, List.getElem_cons_zero, List.getElem_cons_succ, List.setIfInBounds_toArray, List.set_cons_zero, List.set_cons_succ]
            refine wpAnyH_take (i := 8) (oi := _) (v := ?_) rfl (by kernel_rfl) (by kernel_rfl) (by kernel_rfl) (fun _ _ _ h => h) (Or.inl ⟨by rfl, ?_⟩) (by assumption) ?_
            rotate_left
            · (intro wq hSwq; (try dsimp only at hSwq); go_simp; (try with_reducible rfl))
            try simp only [Act.put, List.getElem_toArray, List.getElem_cons_zero, List.getElem_cons_succ, List.setIfInBounds_toArray, List.set_cons_zero, List.set_cons_succ]
            refine wpAnyH_take (i := 9) (oi := _) (v := ?_) rfl (by kernel_rfl) (by kernel_rfl) (by kernel_rfl) (fun _ _ _ h => h) (Or.inl ⟨by rfl, ?_⟩) (by assumption) ?_
            rotate_left
            · (intro wq hSwq; (try dsimp only at hSwq); go_simp; (try with_reducible rfl))
            try simp only [Act.put, List.getElem_toArray, List.getElem_cons_zero, List.getElem_cons_succ, List.setIfInBounds_toArray, List.set_cons_zero, List.set_cons_succ]
            refine wpAnyH_take (i := 10) (oi := _) (v := ?_) rfl (by kernel_rfl) (by kernel_rfl) (by kernel_rfl) (fun _ _ _ h => h) (Or.inl ⟨by rfl, ?_⟩) (by assumption) ?_
            rotate_left
            · (intro wq hSwq; (try dsimp only at hSwq); go_simp; (try with_reducible rfl))
            try simp only [Act.put, List.getElem_toArray, List.getElem_cons_zero, List.getElem_cons_succ, List.setIfInBounds_toArray, List.set_cons_zero, List.set_cons_succ]
            refine wpAnyH_take (i := 11) (oi := _) (v := ?_) rfl (by kernel_rfl) (by kernel_rfl) (by kernel_rfl) (fun _ _ _ h => h) (Or.inl ⟨by rfl, ?_⟩) (by assumption) ?_
            rotate_left
            · (intro wq hSwq; (try dsimp only at hSwq); go_simp; (try with_reducible rfl))
            try simp only [Act.put, List.getElem_toArray, List.getElem_cons_zero, List.getElem_cons_succ, List.setIfInBounds_toArray, List.set_cons_zero, List.set_cons_succ]
            refine wpAnyH_take (i := 12) (oi := _) (v := ?_) rfl (by kernel_rfl) (by kernel_rfl) (by kernel_rfl) (fun _ _ _ h => h) (Or.inl ⟨by rfl, ?_⟩) (by assumption) ?_
            rotate_left
            · (intro wq hSwq; (try dsimp only at hSwq); go_simp; (try with_reducible rfl))
            try simp only [Act.put, List.getElem_toArray, List.getElem_cons_zero, List.getElem_cons_succ, List.setIfInBounds_toArray, List.set_cons_zero, List.set_cons_succ]
            refine wpAnyH_ready (rs := [4, 13]) (by kernel_rfl) (by simp) ?_
            refine AllReadyH.cons rfl (fun Kq hKq => ?_) (AllReadyH.cons rfl (fun Kq hKq => ?_) AllReadyH.nil)
            go_simp
            refine hKq.out _ _ ?_ (fun hHeld2 => ?_)
            · (try dsimp only); exact ⟨f0, f1, f2⟩
            clear hKq Kq hHeldq
            have hHeldq := hHeld2
            clear hHeld2
            try simp only [Act.put, List.getElem_toArray, List.getElem_cons_zero, List.getElem_cons_succ, List.setIfInBounds_toArray, List.set_cons_zero, List.set_cons_succ]
            refine wpAnyH_ready (rs := [13]) (by kernel_rfl) (by simp) ?_
            refine AllReadyH.cons rfl (fun Kq hKq => ?_) AllReadyH.nil
            go_simp
            refine hKq.out _ _ ?_ (fun hHeld2 => ?_)
            · (try dsimp only); exact ⟨hb0 _, hb1 _, hb2 _⟩
            clear hKq Kq hHeldq
            have hHeldq := hHeld2
            clear hHeld2
            try simp only [Act.put, List.getElem_toArray, List.getElem_cons_zero, List.getElem_cons_succ, List.setIfInBounds_toArray, List.set_cons_zero, List.set_cons_succ]
            rotate_left
            go_simp
            refine hKq.out _ _ ?_ (fun hHeld2 => ?_)
            · (try dsimp only); exact ⟨hb0 _, hb1 _, hb2 _⟩
            clear hKq Kq hHeldq
            have hHeldq := hHeld2
            clear hHeld2
            try simp only [Act.put, List.getElem_toArray, List.getElem_cons_zero, List.getElem_cons_succ, List.setIfInBounds_toArray, List.set_cons_zero, List.set_cons_succ]
            refine wpAnyH_ready (rs := [4]) (by kernel_rfl) (by simp) ?_
            refine AllReadyH.cons rfl (fun Kq hKq => ?_) AllReadyH.nil
            go_simp
            refine hKq.out _ _ ?_ (fun hHeld2 => ?_)
            · (try dsimp only); exact ⟨hb0 _, hb1 _, hb2 _⟩
            clear hKq Kq hHeldq
            have hHeldq := hHeld2
            clear hHeld2
            try simp only [Act.put, List.getElem_toArray, List.getElem_cons_zero, List.getElem_cons_succ, List.setIfInBounds_toArray, List.set_cons_zero, List.set_cons_succ]
            all_goals
              refine wpAnyH_ready (rs := [14]) (by kernel_rfl) (by simp) ?_
              refine AllReadyH.cons rfl (fun Kq hKq => ?_) AllReadyH.nil
              (refine step_append_lies _ rfl (.tmp 94) (.tmp 103) 109 rfl (w.heap.size + 1) 116 i0 _ 4 48 Tryz.underlying109 hi hz0 hz1 hz2 rfl (by decide) v j (fcells (fs.take j) bs) (by simp [Act.eval, Act.put]) (World.ownsRow.alloc HOWN.out _) ⟨w7.heap.size, 0, none⟩ 1 1 [.string f.name, .string f.tag, .pointer (some ⟨y, 0, none⟩), .bool f.emb] (by simp [Act.eval, Act.put]) rfl (World.news_of_block (heap_alloc_new w7.drew _)) (by simp [Value.oneCell']) (by decide) (by unfold maxLen; omega) (by omega) (by simp; omega) _ rfl ?_; intro g cap w9 hown9 hg9 hat hlt9; have hx9 : w9.heap[x]? = w7.drew.heap[x]? := (hg9.block x (by simp; omega) (fun e => by have := (own_lt HOWN.out e.symm).1; omega)).trans (Below.heap_alloc w7.drew _ x (by simp; omega)); have q5' : w9.cell? ⟨x, 5, none⟩ = some v := (World.cell?_of_block hx9).trans q5; have qf' : w9.frozen? ⟨x, 5, none⟩ = false := (World.frozen?_of_block hx9).trans qf; have hr9 : w9.heap[wr.heap.size]? = w7.drew.heap[wr.heap.size]? := (hg9.block wr.heap.size (by simp; omega) (fun e => hvo e.symm)).trans (Below.heap_alloc w7.drew _ wr.heap.size hwr7); have k0 := (World.cell?_of_block hr9).trans f0; have k1 := (World.cell?_of_block hr9).trans f1; have k2 := (World.cell?_of_block hr9).trans f2; have HO9 := Lib.hid hown9; have HG9 := Lib.hid hg9; clear hown9 hg9 hx9 hr9)
              refine hKq.out _ _ ?_ (fun hHeld2 => ?_)
              · (try dsimp only); exact ⟨k0, k1, k2⟩
              clear hKq Kq hHeldq
              have hHeldq := hHeld2
              clear hHeld2
              try simp only [Act.put, List.getElem_toArray, List.getElem_cons_zero, List.getElem_cons_succ, List.setIfInBounds_toArray, List.set_cons_zero, List.set_cons_succ]
              refine wpAnyH_take (i := 15) (oi := _) (v := ?_) rfl (by kernel_rfl) (by kernel_rfl) (by kernel_rfl) (fun _ _ _ h => h) (Or.inl ⟨by rfl, ?_⟩) (by assumption) ?_
              rotate_left
              · (intro wq hSwq; (try dsimp only at hSwq); go_simp; (try with_reducible rfl))
              try simp only [Act.put, List.getElem_toArray, List.getElem_cons_zero, List.getElem_cons_succ, List.setIfInBounds_toArray, List.set_cons_zero, List.set_cons_succ]
              refine wpAnyH_take (i := 16) (oi := _) (v := ?_) rfl (by kernel_rfl) (by kernel_rfl) (by kernel_rfl) (fun _ _ _ h => h) (Or.inl ⟨by rfl, ?_⟩) (by assumption) ?_
              rotate_left
              · (intro wq hSwq; (try dsimp only at hSwq); go_simp; (try with_reducible rfl))
              try simp only [Act.put, List.getElem_toArray, List.getElem_cons_zero, List.getElem_cons_succ, List.setIfInBounds_toArray, List.set_cons_zero, List.set_cons_succ]
              refine wpAnyH_ready (rs := [17]) (by kernel_rfl) (by simp) ?_
              refine AllReadyH.cons rfl (fun Kq hKq => ?_) AllReadyH.nil
              go_simp
              refine hKq.out _ _ ?_ (fun hHeld2 => ?_)
              · (try dsimp only); exact ⟨(World.cell?_setCell_far _ _ _ _ (by simp; omega)).trans k0, (World.cell?_setCell_far _ _ _ _ (by simp; omega)).trans k1, (World.cell?_setCell_far _ _ _ _ (by simp; omega)).trans k2⟩
              clear hKq Kq hHeldq
              have hHeldq := hHeld2
              clear hHeld2
              try simp only [Act.put, List.getElem_toArray, List.getElem_cons_zero, List.getElem_cons_succ, List.setIfInBounds_toArray, List.set_cons_zero, List.set_cons_succ]
              refine wpAnyH_done (by kernel_rfl) ?_ _
            all_goals
              have hst9 := HST6.out.add (w5 := (w7.alloc (.cells #[.string f.name, .string f.tag, .pointer (some ⟨y, 0, none⟩), .bool f.emb] 116)).drew) HO.out hf hns hemb HY6.out HM7.out HG7.out ⟨rfl, rfl, rfl, by simp [World.drew], fun k hk _ => Below.heap_alloc w7 _ k hk⟩ HO9.out HG9.out hat
              have HST9 := Lib.hid hst9
              clear hst9
              go_wp2_with fail
              go_roundw
              case rel => exact ⟨j + 1, L3, am2, _, _, _, by go_num, by omega, hL30, by omega, HST9.out⟩
              case measure => simp [intOf]; omega
    · obtain rfl : j = fs.length := by omega
      have HST := Lib.hid hst
      clear hst
      go_wp2_with fail
      go_ret
      exact HST.out.good rfl hL0 hL (by omega)
end Go.Proofs.YtnmgocbmofbppaaGreatDoor
