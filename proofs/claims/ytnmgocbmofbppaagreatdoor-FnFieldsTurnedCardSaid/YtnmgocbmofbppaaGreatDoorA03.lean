/- W6 The stand-in's types in memory: how a type as data is represented there. Plain definitions and laws. W7 word and basic: whether a text is a name. The state in which make, byName and fields work; what they leave. -/
import Derived.Test.YtnmgocbmofbppaaGreatDoorA02
import Derived.Test.YtnmgocbmofbppaaGreatDoorA01
import Derived.Test.YtnmgocbmofbppaaGreatDoorShelf
import Derived.KernelRfl
import Derived.Outline
import Derived.BigGuardPart
import Derived.Deep.DeepMust
import Derived.Deep.LoopGhost
import Derived.Deep.DeepCutAuto
import Derived.Deep.CutBlock
import Derived.Deep.QuietTactic
import Derived.BigQuiet
import Derived.Lib.Hide
import Derived.WalkSpells
import Derived.Deep.Light
import Derived.Deep.RegionWith
import Derived.WalkLawsBesides
import Derived.StillTailTactics
import Derived.Lib.OthersKept
import Derived.Lib.RuneLoops
import Derived.Lib.SmallJoins
import Derived.Laws.RangeAny

set_option linter.unusedVariables false
set_option linter.unusedSimpArgs false

namespace Go.Proofs.YtnmgocbmofbppaaGreatDoor
open Go.RowKit



/-- The state in which few works: besides, a map of done names. -/
structure FPre (w : World) (B bk mn : Nat) (env : AL Ty) (cb : Nat) (left : Int) (dn : Nat) : Prop where
  sp : SPre w B bk mn env cb 0 left
  dm : ∃ l, SMap w dn l ∧ Bools l
  hB : B ≤ dn
  hbk : dn ≠ bk
  hcb : dn ≠ cb
  hmn : dn ≠ mn
theorem FPre.ltd {w : World} {B bk mn : Nat} {env : AL Ty} {cb : Nat} {left : Int} {dn : Nat} (h : FPre w B bk mn env cb left dn) : dn < w.heap.size := by
  obtain ⟨l, h1, _⟩ := h.dm; exact h1.lt
theorem FPre.alloc {w : World} {B bk mn : Nat} {env : AL Ty} {cb : Nat} {left : Int} {dn : Nat} (h : FPre w B bk mn env cb left dn) (o : Obj) : FPre (w.alloc o) B bk mn env cb left dn := by
  have hl := h.ltd
  obtain ⟨l, h1, h2⟩ := h.dm
  exact ⟨h.sp.alloc o, ⟨l, h1.keep (Below.heap_alloc w o dn hl), h2⟩, h.hB, h.hbk, h.hcb, h.hmn⟩
theorem FPre.of_heap {w w' : World} {B bk mn : Nat} {env : AL Ty} {cb : Nat} {left : Int} {dn : Nat} (h : FPre w B bk mn env cb left dn) (e : w'.heap = w.heap) : FPre w' B bk mn env cb left dn := by
  obtain ⟨l, h1, h2⟩ := h.dm
  exact ⟨h.sp.of_heap e, ⟨l, h1.keep (by rw [e]), h2⟩, h.hB, h.hbk, h.hcb, h.hmn⟩
theorem FPre.set_ {w : World} {B bk mn : Nat} {env : AL Ty} {cb : Nat} {left : Int} {dn : Nat} (h : FPre w B bk mn env cb left dn) (x : Int) : FPre (w.setCell ⟨cb, 0, none⟩ (.int .i64 x)) B bk mn env cb x dn := by
  obtain ⟨l, h1, h2⟩ := h.dm
  exact ⟨h.sp.set_ x, ⟨l, h1.keep (Below.heap_setCell w _ _ dn h.hcb), h2⟩, h.hB, h.hbk, h.hcb, h.hmn⟩
theorem FPre.put {w w' : World} {B bk mn : Nat} {env : AL Ty} {cb : Nat} {left : Int} {dn : Nat} {l : AL Value} (h : FPre w B bk mn env cb left dn) (hg : w.grownBy w' (some dn)) (hm : SMap w' dn l) (hb : Bools l) : FPre w' B bk mn env cb left dn :=
  ⟨h.sp.ext (S := (· = dn)) (.of_grownBy hg rfl) (fun k hk => by subst hk; exact ⟨h.hB, h.hbk, h.hcb, h.hmn⟩), ⟨l, hm, hb⟩, h.hB, h.hbk, h.hcb, h.hmn⟩

/-- What few leaves. -/
def FwPost (w : World) (B bk mn : Nat) (env : AL Ty) (cb : Nat) (left : Int) (dn : Nat) (e : Ending) (w' : World) : Prop :=
  ∃ r L, e = .returned (.bool r) ∧ FPre w' B bk mn env cb L dn ∧ L < left ∧ -1 ≤ L ∧ (r = true → 0 ≤ L) ∧ Ext (fun k => k = cb ∨ k = dn) w w'
def FwOk (B bk mn : Nat) (env : AL Ty) (cb dn : Nat) (N : Nat) (T : Ty) : Prop :=
  ∀ (w : World) (left : Int) (cs : List Value), 0 ≤ left → left ≤ N → left ≤ 1000000 → FPre w B bk mn env cb left dn → TyV w (· < B) T cs →
    Calls Tryz.prog 36 #[.pointer (some ⟨bk, 0, none⟩), .agg cs.toArray, .map (some dn), .pointer (some ⟨cb, 0, none⟩)] w (FwPost w B bk mn env cb left dn)

set_option maxHeartbeats 3200000 in
set_option maxRecDepth 100000 in
theorem few_any {B bk mn : Nat} {env : AL Ty} {cb dn : Nat} (hE : wfE env) : ∀ (N : Nat) (T : Ty), T.wf0 → FwOk B bk mn env cb dn N T := by
  intro N
  induction N using Nat.strongRecOn with
  | _ N ih =>
    intro T hw w left cs h0 hN hM h hT
    cases T with
    | mk k n s of fs =>
    obtain ⟨A, co, D, cf, rfl, hbig, hof, hfs⟩ := hT
    have hcl := h.sp.cl
    have hnf := h.sp.nf
    have hltb := h.sp.hlt
    have hlt := h.sp.ltc
    have hB := h.sp.hB
    have hBd := h.hB
    have hld := h.ltd
    have hne : bk ≠ cb := fun e => h.sp.hne e rfl
    have H := Lib.hid h
    have IH := Lib.hid ih
    clear h ih
    go_enter Tryz.func36, Tryz.ntmps36
    go_upto_region 1 with fail
    go_cut [14] (fun _ wx => FPre wx B bk mn env cb (left - 1) dn ∧ Box5' wx w.heap.size (.int .i64 k) (.int .i64 n) (.string s) (.slice A of.length co) (.slice D fs.length cf) ∧ Ext (fun k => k = cb ∨ k = dn) w wx ∧ w.heap.size < wx.heap.size)
    case first =>
      go_wp2
      go_meet
      exact ⟨(H.out.set_ _).alloc _, Box5'.new' (by simp [World.setCell]) _ _ _ _ _ _, (Ext.setCell (S := fun k => k = cb ∨ k = dn) w (Or.inl rfl) _).trans (Ext.alloc _ _), by simp [World.setCell]⟩
    case rest =>
      obtain ⟨hp, hb5, hx, hs⟩ := hcut
      have ⟨d0, d1, d2, d3, d4⟩ := hb5
      clear hcl hnf
      have hcl := hp.sp.cl
      have hc0 := hp.sp.c0
      have hnf := hp.sp.nf
      have HP := Lib.hid hp
      have HX := Lib.hid hx
      have HB5 := Lib.hid hb5
      clear hp hx hb5
      by_cases hl : left - 1 < 0
      · go_wp2_with fail
        go_ret
        exact ⟨false, _, rfl, HP.out, by omega, by omega, (fun h => nomatch h), HX.out⟩
      · have hd0 : decide (left - 1 < 0) = false := decide_eq_false hl
        have hblk : ∀ w2, Ext (fun k => k = cb ∨ k = dn) w w2 → ∀ b, b < B → w2.heap[b]? = w.heap[b]? := fun w2 hx2 b hb => hx2.block b (by omega) (by omega)
        have HBL := Lib.hid hblk
        clear hblk
        by_cases h14 : k = 14
        · subst h14
          obtain ⟨lv, hlv, A', ca, B', cb', hval, _, hty⟩ := HP.out.sp.nm.look s
          have hlk : (Instr.lookup 72 (.map (some mn)) (.string s) false).run Tryz.prog wc.drew =
              .ok (.agg #[.int .i64 (envT env s).kind, .int .i64 (envT env s).n, .string (envT env s).s, .slice A' (envT env s).of.length ca, .slice B' (envT env s).fields.length cb']) wc.drew := by
            rw [run_lookup_s (w := wc.drew) Tryz.underlying72 Tryz.underlying9 (hlv.keep rfl) s z26 (zero26 _) false]
            simp [hval]
          have HT := Lib.hid hty
          clear hlv hval hty
          go_upto_region 6 with fail
          go_still_tail 10, (by kernel_rfl)
          go_wp2_with fail
          refine (IH.out (N - 1) (by omega) (envT env s) (envT_wf0 hE s) _ (left - 1) _ (by omega) (by omega) (by omega) (by exact HP.out.of_heap rfl) (by exact HT.out.of_heap rfl)).mono ?_
          rintro e w2 ⟨r, L, rfl, hp2, hL, hL1, hr, hx2⟩
          have Y : Hid (FwPost w B bk mn env cb left dn (.returned (.bool r)) w2) := ⟨r, L, rfl, hp2, by omega, hL1, hr, HX.out.trans hx2.of_drew⟩
          clear hp2 hL hL1 hr hx2
          go_wp2
          go_ret
          exact Y.out
        · by_cases h912 : k = 9 ∨ k = 12
          · obtain ⟨t, rfl, hw'⟩ := wf_of_ptr hw (by omega)
            obtain ⟨b, off, A', ca, B', cb', rfl, ha, hty, hcell⟩ := TysV.at_ (j := 0) hof rfl
            simp only [Nat.zero_mul, Nat.add_zero] at hcell
            have hbs : b < wc.heap.size := by have := HX.out.size; omega
            have hbd : b ≠ dn := by omega
            obtain ⟨e0, e1, e2, e3, e4⟩ := hcell
            rw [← World.cell?_of_block (w' := wc) (HBL.out _ HX.out _ ha)] at e0 e1 e2 e3 e4
            have HT := Lib.hid (TyV.keep (w' := wc) (fun b hb => ⟨hb, HBL.out _ HX.out b hb⟩) _ _ hty)
            clear hty
            have fin : ∀ (wz w2 : World) (e : Ending), Ext (fun k => k = cb ∨ k = dn) w wz → FwPost wz B bk mn env cb (left - 1) dn e w2 → FwPost w B bk mn env cb left dn e w2 := by
              rintro wz w2 e hz ⟨r, L, rfl, hp2, hL, hL1, hr, hx2⟩
              exact ⟨r, L, rfl, hp2, by omega, hL1, hr, hz.trans hx2⟩
            have FIN := Lib.hid fin
            clear fin
            by_cases ht14 : t.kind = 14
            · obtain ⟨l, hdm, hbl⟩ := HP.out.dm
              obtain ⟨q, hq⟩ := hbl.get t.s
              have HDM := Lib.hid hdm
              have HBO := Lib.hid hbl
              clear hdm hbl
              rw [ht14] at e0 HT
              cases q with
              | true =>
                rcases h912 with rfl | rfl
                all_goals
                  go_wp2_with (at_lookup; refine wpList_lookup_sv _ rfl _ _ 103 false rfl 9 4 Tryz.underlying103 Tryz.underlying9 l dn rfl (HDM.out.keep (Below.heap_alloc _ _ _ HP.out.ltd)) t.s rfl (.bool false) (zero4 _) (.bool true) hq ?_)
                  go_ret
                  exact ⟨true, _, rfl, HP.out.alloc _, by omega, by omega, (fun _ => by omega), HX.out.trans (Ext.alloc _ _)⟩
              | false =>
                rcases h912 with rfl | rfl
                all_goals
                  go_wp2_with (first | (at_lookup; refine wpList_lookup_sv _ rfl _ _ 103 false rfl 9 4 Tryz.underlying103 Tryz.underlying9 l dn rfl (HDM.out.keep (Below.heap_alloc _ _ _ HP.out.ltd)) t.s rfl (.bool false) (zero4 _) (.bool false) hq ?_) | (at_mapUpdate; refine wpList_mapUpdate_s _ rfl _ _ _ 103 rfl 9 4 Tryz.underlying103 Tryz.underlying9 l dn rfl (HDM.out.keep (Below.heap_alloc _ _ _ HP.out.ltd)) t.s rfl (.bool true) rfl ?_; intro w3 hm3 hg3 hz3; refine Hid.out ?_))
                  refine Lib.hid ?_
                  have hp3 := (HP.out.alloc _).put hg3 hm3 (HBO.out.put _ true)
                  have hx3 := (HX.out.trans (Ext.alloc wc _)).trans (Ext.of_grownBy hg3 (Or.inr rfl))
                  have hs3 := hx3.size
                  have HX3 := Lib.hid hx3
                  have HP3 := Lib.hid hp3
                  have f3 : w3.cell? ⟨w.heap.size, 3, none⟩ = some (.slice (some ⟨b, off, none⟩) 1 co) := (World.cell?_of_block (show w3.heap[w.heap.size]? = wc.heap[w.heap.size]? from (hg3.block w.heap.size (by simp; omega) (fun e => by injection e; omega)).trans (Below.heap_alloc wc _ _ hs))).trans d3
                  have hbs3 : b < wc.heap.size := hbs
                  have hb3 := (hg3.block b (by simp; omega) (fun e => by injection e; omega)).trans (Below.heap_alloc wc _ b hbs)
                  rw [← World.cell?_of_block hb3] at e0 e1 e2 e3 e4
                  clear hb3 hg3 hm3 hp3 hx3
                  go_wp2_with (go_at_call 36; go_must (refine (IH.out (N - 1) (by omega) t (Or.inl hw') _ (left - 1) _ (by omega) (by omega) (by omega) (by exact HP3.out) (by exact TyV.keep (fun b hb => ⟨hb, (HBL.out _ HX3.out b hb).trans (HBL.out _ HX.out b hb).symm⟩) _ _ HT.out)).mono ?_; rintro e w4 hy; obtain ⟨r, L, rfl, hy2⟩ := FIN.out _ _ _ HX3.out hy; have HY := Lib.hid hy2; clear hy hy2))
                  go_ret
                  exact ⟨r, L, rfl, HY.out⟩
            · have ht14' : decide (t.kind = 14) = false := decide_eq_false ht14
              rcases h912 with rfl | rfl
              all_goals
                go_wp2_with (go_at_call 36; refine (IH.out (N - 1) (by omega) t (Or.inl hw') _ (left - 1) _ (by omega) (by omega) (by omega) (by exact HP.out.alloc _) (by exact TyV.keep (fun b hb => ⟨hb, Below.heap_alloc wc _ b (by have := HX.out.size; omega)⟩) _ _ HT.out)).mono ?_; rintro e w4 hy; obtain ⟨r, L, rfl, hy2⟩ := FIN.out _ _ _ (HX.out.trans (Ext.alloc wc _)) hy; have HY := Lib.hid hy2; clear hy hy2)
                go_ret
                exact ⟨r, L, rfl, HY.out⟩
          · by_cases h10 : k = 10
            · subst h10
              obtain ⟨t, rfl, hw'⟩ := wf_of_ptr hw (by simp)
              obtain ⟨b, off, A', ca, B', cb', rfl, ha, hty, hcell⟩ := TysV.at_ (j := 0) hof rfl
              simp only [Nat.zero_mul, Nat.add_zero] at hcell
              obtain ⟨e0, e1, e2, e3, e4⟩ := hcell
              have IT := Lib.hid (IH.out (N - 1) (by omega) t (Or.inl hw'))
              go_wp2_with fail
              go_loopw [65] (fun i wr => ∃ (j : Int) (L : Int), i = .int .i64 j ∧ 0 ≤ j ∧ FPre wr B bk mn env cb L dn ∧ 0 ≤ L ∧ L ≤ left - 1 ∧ (L + j ≤ left - 1) ∧ Ext (fun k => k = cb ∨ k = dn) w wr ∧ w.heap.size < wr.heap.size ∧ Box5' wr w.heap.size (.int .i64 10) (.int .i64 n) (.string s) (.slice (some ⟨b, off, none⟩) [t].length co) (.slice D fs.length cf)) (fun i _ => (left - intOf i).toNat)
              case atStart => exact ⟨0, left - 1, rfl, by omega, HP.out, by omega, by omega, by omega, HX.out, hs, HB5.out⟩
              case round =>
                clear d0 d1 d2 d3 d4 hcl hc0 hnf hd0 hs HP HX HB5
                obtain ⟨j, L, rfl, hj0, hp, hL0, hL1, hL2, hx, hs, hb5⟩ := hrel
                have ⟨d0, d1, d2, d3, d4⟩ := hb5
                by_cases hjn : j < n
                · rw [← World.cell?_of_block (w' := wr) (HBL.out _ hx _ ha)] at e0 e1 e2 e3 e4
                  have HT := Lib.hid (TyV.keep (w' := wr) (fun b hb => ⟨hb, HBL.out _ hx b hb⟩) _ _ hty)
                  have HP := Lib.hid hp
                  have HX := Lib.hid hx
                  have HB5 := Lib.hid hb5
                  clear hty hp hx hb5
                  go_wp2_with (go_at_call 36; refine (IT.out _ L _ hL0 (by omega) (by omega) (by exact HP.out) (by exact HT.out)).mono ?_; rintro e w2 ⟨r, L2, rfl, hp2, hL, hL1, hr, hx2⟩; have hs2 := Nat.lt_of_lt_of_le hs hx2.size; have HB2 := Lib.hid (HB5.out.keep (hx2.block _ hs (by omega))); have HX2 := Lib.hid (HX.out.trans hx2); have HP2 := Lib.hid hp2; have HR := Lib.hid hr; clear hp2 hx2 hr; cases r)
                  · go_ret
                    exact ⟨false, L2, rfl, HP2.out, by omega, by omega, (fun h => nomatch h), HX2.out⟩
                  · have hL20 := HR.out (by simp)
                    go_roundw
                    case rel => exact ⟨j + 1, L2, rfl, by omega, HP2.out, hL20, by omega, by omega, HX2.out, hs2, HB2.out⟩
                    case measure => simp [intOf]; omega
                · have HP := Lib.hid hp
                  have HX := Lib.hid hx
                  clear hp hx hb5
                  go_wp2
                  go_ret
                  exact ⟨true, L, rfl, HP.out, by omega, by omega, (fun _ => hL0), HX.out⟩
            · by_cases h13 : k = 13
              · subst h13
                have hbig : s.size ≤ 140737488351232 ∧ of.length ≤ 140737488351232 ∧ fs.length ≤ 140737488351232 := hbig
                go_wp2_with fail
                go_loopw [82] (fun i wr => ∃ (j : Nat) (L : Int), i = .int .i64 j ∧ j ≤ fs.length ∧ FPre wr B bk mn env cb L dn ∧ 0 ≤ L ∧ L ≤ left - 1 ∧ Ext (fun k => k = cb ∨ k = dn) w wr ∧ w.heap.size < wr.heap.size) (fun i _ => fs.length - (intOf i).toNat)
                case atStart => exact ⟨0, left - 1, rfl, Nat.zero_le _, HP.out, by omega, by omega, HX.out, hs⟩
                case round =>
                  clear d0 d1 d2 d3 d4 hcl hc0 hnf hd0 hs HP HX HB5
                  obtain ⟨j, L, rfl, hj, hp, hL0, hL1, hx, hs⟩ := hrel
                  by_cases hlt : j < fs.length
                  · obtain ⟨f, hf⟩ : ∃ f, fs[j]? = some f := ⟨_, List.getElem?_eq_getElem hlt⟩
                    obtain ⟨b, off, A', ca, B', cb', rfl, ha, _, hty, hcell⟩ := FlsV.at_ hfs hf
                    have ⟨e0, e1, e2, e3, e4, e5, e6, e7⟩ := hcell
                    rw [← World.cell?_of_block (w' := wr) (HBL.out _ hx _ ha)] at e0 e1 e2 e3 e4 e5 e6 e7
                    have ht1 : ∀ o, TyV (wr.alloc o) (· < B) f.t _ := fun o => TyV.keep (fun b hb => ⟨hb, (Below.heap_alloc wr o b (by omega)).trans (HBL.out _ hx b hb)⟩) _ _ hty
                    have hwf : f.t.wf := (mem_sz (List.mem_of_getElem? hf)).2 (wff_of hw)
                    have HF := Lib.hid (IH.out (N - 1) (by omega) f.t (Or.inl hwf))
                    have HT := Lib.hid ht1
                    have HP := Lib.hid hp
                    have HX := Lib.hid hx
                    clear hty hcell hp hx hf ht1 hwf
                    go_wp2_with (go_at_call 36; refine (HF.out _ L _ hL0 (by omega) (by omega) (by exact HP.out.alloc _) (by exact HT.out _)).mono ?_; rintro e w2 ⟨r, L2, rfl, hp2, hL, hL1, hr, hx2⟩; have hs2 := Nat.lt_of_lt_of_le hs (Nat.le_trans (by simp) hx2.size); have HX2 := Lib.hid ((HX.out.trans (Ext.alloc _ _)).trans hx2); have HP2 := Lib.hid hp2; have HR := Lib.hid hr; clear hp2 hx2 hr; cases r)
                    · go_ret
                      exact ⟨false, L2, rfl, HP2.out, by omega, by omega, (fun h => nomatch h), HX2.out⟩
                    · have hL20 := HR.out (by simp)
                      go_roundw
                      case rel => exact ⟨j + 1, L2, by go_num, by omega, HP2.out, hL20, by omega, HX2.out, hs2⟩
                      case measure => simp [intOf]; omega
                  · have HP := Lib.hid hp
                    have HX := Lib.hid hx
                    clear hp hx
                    go_wp2
                    go_ret
                    exact ⟨true, L, rfl, HP.out, by omega, by omega, (fun _ => hL0), HX.out⟩
              · have h9 : k ≠ 9 := by omega
                have h12 : k ≠ 12 := by omega
                go_wp2_with fail
                go_ret
                exact ⟨true, _, rfl, HP.out, by omega, by omega, (fun _ => by omega), HX.out⟩
end Go.Proofs.YtnmgocbmofbppaaGreatDoor
namespace Go.Proofs.YtnmgocbmofbppaaGreatDoor
open Go.RowKit

/-- The kind that the stand-in has for a kind of a type (of n bits). -/
def kOf (k n : Int) : Int :=
  if k = 1 then 1 else if k = 2 then (if n = 8 then 2 else if n = 16 then 3 else if n = 32 then 4 else 5)
  else if k = 3 then (if n = 8 then 6 else if n = 16 then 7 else if n = 32 then 8 else 9)
  else if k = 4 then (if n = 32 then 10 else 11) else if k = 5 then 12 else if k = 6 then 13 else if k = 9 then 14 else if k = 10 then 15 else if k = 11 then 16 else if k = 12 then 17
  else if k = 15 then 5 else 18
def markOf (k : Int) : Int := if k = 7 then 4 else if k = 8 then 5 else if k = 15 then 3 else 0

/-- The first seven cells of a type's block (the eighth is Info). -/
structure TB (w : World) (b : Nat) (k : Int) (nm : ByteArray) (e ke : Option Nat) (n : Int) (A : Option Addr) (fl fc : Nat) (mark : Int) : Prop where
  c0 : w.cell? ⟨b, 0, none⟩ = some (.int .u8 k)
  c1 : w.cell? ⟨b, 1, none⟩ = some (.string nm)
  c2 : w.cell? ⟨b, 2, none⟩ = some (.pointer (e.map fun x => ⟨x, 0, none⟩))
  c3 : w.cell? ⟨b, 3, none⟩ = some (.pointer (ke.map fun x => ⟨x, 0, none⟩))
  c4 : w.cell? ⟨b, 4, none⟩ = some (.int .i64 n)
  c5 : w.cell? ⟨b, 5, none⟩ = some (.slice A fl fc)
  c6 : w.cell? ⟨b, 6, none⟩ = some (.int .i64 mark)
theorem TB.keep {w w' : World} {b : Nat} {k : Int} {nm : ByteArray} {e ke : Option Nat} {n : Int} {A : Option Addr} {fl fc : Nat} {mark : Int} (h : TB w b k nm e ke n A fl fc mark)
    (hb : ∀ i, i < 7 → w'.cell? ⟨b, i, none⟩ = w.cell? ⟨b, i, none⟩) : TB w' b k nm e ke n A fl fc mark :=
  ⟨(hb 0 (by decide)).trans h.c0, (hb 1 (by decide)).trans h.c1, (hb 2 (by decide)).trans h.c2, (hb 3 (by decide)).trans h.c3, (hb 4 (by decide)).trans h.c4, (hb 5 (by decide)).trans h.c5, (hb 6 (by decide)).trans h.c6⟩

/-- A field of a struct among the cells of the fields' array. -/
structure FC (w : World) (fb o : Nat) (name tag : ByteArray) (t : Nat) (emb : Bool) : Prop where
  c0 : w.cell? ⟨fb, o, none⟩ = some (.string name)
  c1 : w.cell? ⟨fb, o + 1, none⟩ = some (.string tag)
  c2 : w.cell? ⟨fb, o + 2, none⟩ = some (.pointer (some ⟨t, 0, none⟩))
  c3 : w.cell? ⟨fb, o + 3, none⟩ = some (.bool emb)
theorem FC.keep {w w' : World} {fb o : Nat} {name tag : ByteArray} {t : Nat} {emb : Bool} (h : FC w fb o name tag t emb) (hb : w'.heap[fb]? = w.heap[fb]?) : FC w' fb o name tag t emb :=
  ⟨(World.cell?_of_block hb).trans h.c0, (World.cell?_of_block hb).trans h.c1, (World.cell?_of_block hb).trans h.c2, (World.cell?_of_block hb).trans h.c3⟩

/-- A field has a name; an embedded one is of a named type, or a pointer to one, of its own name. -/
def embOk (f : Fl) : Prop :=
  f.name.size ≠ 0 ∧ (f.emb = true → (∃ n of fs, f.t = .mk 14 n f.name of fs) ∨ ∃ n' s' fs' n of fs, f.t = .mk 12 n' s' [.mk 14 n f.name of fs] fs')

/-- A leaf: a type without parts. -/
def Leaf (w : World) (ok : Nat → Prop) (k : Int) (b : Nat) : Prop := ok b ∧ ∃ nm : ByteArray, nm.size ≠ 0 ∧ nm.size ≤ 100 ∧ TB w b k nm none none 0 none 0 0 0 ∧ w.cell? ⟨b, 7, none⟩ = some .nilIface

/-- Info is nil, and may be written. -/
def Nil7 (w : World) (b : Nat) : Prop := w.cell? ⟨b, 7, none⟩ = some .nilIface ∧ w.frozen? ⟨b, 7, none⟩ = false
theorem Nil7.keep {w w' : World} {b : Nat} (h : Nil7 w b) (hb : w'.heap[b]? = w.heap[b]?) : Nil7 w' b := ⟨(World.cell?_of_block hb).trans h.1, (World.frozen?_of_block hb).trans h.2⟩

/-- What a type has beside its head, for the kinds without types of their own: maps, names, attributes. -/
def Odd (w : World) (ok : Nat → Prop) (k : Int) (e ke : Option Nat) (A : Option Addr) (fl : Nat) : Prop :=
  (k = 11 → ∃ x y, e = some x ∧ ke = some y ∧ Leaf w ok 12 x ∧ Leaf w ok 12 y) ∧
  (k = 7 ∨ k = 8 → fl = 2 ∧ ∃ fb, A = some ⟨fb, 0, none⟩ ∧ ok fb ∧ ∀ i, i < 2 → ∃ name tag t emb, FC w fb (i * 4) name tag t emb ∧ name.size ≤ 5 ∧ tag.size = 0) ∧
  (k ≠ 7 → k ≠ 8 → k ≠ 13 → fl = 0 ∧ A = none) ∧ (k ≠ 9 → k ≠ 10 → k ≠ 11 → k ≠ 12 → e = none) ∧ (k ≠ 11 → ke = none)

mutual
/-- Block b is the type T; named ones are where 'am' says. -/
def RT (w : World) (ok : Nat → Prop) (am : ByteArray → Option Nat) : Ty → Nat → Prop
  | .mk k n s of fs, b => if k = 14 then am s = some b else
      ok b ∧ Nil7 w b ∧ ∃ nm, (nm.size = 0 ↔ (k = 6 ∨ 9 ≤ k ∧ k ≤ 13)) ∧ nm.size ≤ 100 ∧
        ∃ e ke A fl fc, TB w b (kOf k n) nm e ke (if k = 10 then n else 0) A fl fc (markOf k) ∧ Odd w ok k e ke A fl ∧ RE w ok am of e ∧ (k = 13 → fl = fs.length ∧ (fs.map Fl.name).Nodup ∧ (∀ f ∈ fs, embOk f)) ∧ RF w ok am fs A 0
def RE (w : World) (ok : Nat → Prop) (am : ByteArray → Option Nat) : List Ty → Option Nat → Prop
  | [], _ => True
  | t :: _, e => ∃ x, e = some x ∧ RT w ok am t x
def RF (w : World) (ok : Nat → Prop) (am : ByteArray → Option Nat) : List Fl → Option Addr → Nat → Prop
  | [], _, _ => True
  | f :: fs, A, i => (∃ fb, A = some ⟨fb, 0, none⟩ ∧ ok fb ∧ RFl w ok am f fb (i * 4)) ∧ RF w ok am fs A (i + 1)
def RFl (w : World) (ok : Nat → Prop) (am : ByteArray → Option Nat) : Fl → Nat → Nat → Prop
  | .mk name tag emb t, fb, o => ∃ x, FC w fb o name tag x emb ∧ RT w ok am t x
end
/-- The content of a named type's block: as RT has it of a type that is not named, but for the name (and Info). -/
def RN (w : World) (ok : Nat → Prop) (am : ByteArray → Option Nat) (nm : ByteArray) (T : Ty) (b : Nat) : Prop :=
  T.kind ≠ 14 ∧ ∃ e ke A fl fc, TB w b (kOf T.kind T.n) nm e ke (if T.kind = 10 then T.n else 0) A fl fc (markOf T.kind) ∧ Odd w ok T.kind e ke A fl ∧ RE w ok am T.of e ∧
    (T.kind = 13 → fl = T.fields.length ∧ (T.fields.map Fl.name).Nodup ∧ (∀ f ∈ T.fields, embOk f)) ∧ RF w ok am T.fields A 0

section
variable {w w' : World} {ok ok' : Nat → Prop} {am am' : ByteArray → Option Nat}
theorem Leaf.keep {k : Int} {b : Nat} (h : Leaf w ok k b) (hk : ∀ b, ok b → ok' b ∧ w'.heap[b]? = w.heap[b]?) : Leaf w' ok' k b := by
  obtain ⟨h0, nm, h1, h2, h3, h4⟩ := h
  have hb := hk b h0
  exact ⟨hb.1, nm, h1, h2, h3.keep fun i _ => World.cell?_of_block hb.2, (World.cell?_of_block hb.2).trans h4⟩
theorem Odd.keep {k : Int} {e ke : Option Nat} {A : Option Addr} {fl : Nat} (h : Odd w ok k e ke A fl) (hk : ∀ b, ok b → ok' b ∧ w'.heap[b]? = w.heap[b]?) : Odd w' ok' k e ke A fl := by
  obtain ⟨h1, h2, h3, h4, h5⟩ := h
  refine ⟨fun e => ?_, fun e => ?_, h3, h4, h5⟩
  · obtain ⟨x, y, rfl, rfl, hx, hy⟩ := h1 e
    exact ⟨x, y, rfl, rfl, hx.keep hk, hy.keep hk⟩
  · obtain ⟨hl, fb, hA, hf, hc⟩ := h2 e
    refine ⟨hl, fb, hA, (hk fb hf).1, fun i hi => ?_⟩
    obtain ⟨name, tag, t, emb, hc, hn⟩ := hc i hi
    exact ⟨name, tag, t, emb, hc.keep (hk fb hf).2, hn⟩
mutual
theorem RT.keep (hk : ∀ b, ok b → ok' b ∧ w'.heap[b]? = w.heap[b]?) (ha : ∀ s b, am s = some b → am' s = some b) : ∀ (T : Ty) (b : Nat), RT w ok am T b → RT w' ok' am' T b
  | .mk k n s of fs, b, h => by
    unfold RT at h ⊢
    split at h
    · rename_i hk14
      rw [if_pos hk14]
      exact ha s b h
    · rename_i hk14
      rw [if_neg hk14]
      obtain ⟨h0, h7, nm, hn, hn2, e, ke, A, fl, fc, hT, hO, hE, h13, hF⟩ := h
      have hb := hk b h0
      exact ⟨hb.1, h7.keep hb.2, nm, hn, hn2, e, ke, A, fl, fc, hT.keep (fun i _ => World.cell?_of_block hb.2), hO.keep hk, RE.keep hk ha of e hE, h13, RF.keep hk ha fs A 0 hF⟩
theorem RE.keep (hk : ∀ b, ok b → ok' b ∧ w'.heap[b]? = w.heap[b]?) (ha : ∀ s b, am s = some b → am' s = some b) : ∀ (ts : List Ty) (e : Option Nat), RE w ok am ts e → RE w' ok' am' ts e
  | [], _, _ => trivial
  | t :: _, _, ⟨x, h1, h2⟩ => ⟨x, h1, RT.keep hk ha t x h2⟩
theorem RF.keep (hk : ∀ b, ok b → ok' b ∧ w'.heap[b]? = w.heap[b]?) (ha : ∀ s b, am s = some b → am' s = some b) : ∀ (fs : List Fl) (A : Option Addr) (i : Nat), RF w ok am fs A i → RF w' ok' am' fs A i
  | [], _, _, _ => trivial
  | f :: fs, A, i, ⟨⟨fb, h1, h2, h3⟩, h4⟩ => ⟨⟨fb, h1, (hk fb h2).1, RFl.keep hk ha f fb (i * 4) h2 h3⟩, RF.keep hk ha fs A (i + 1) h4⟩
theorem RFl.keep (hk : ∀ b, ok b → ok' b ∧ w'.heap[b]? = w.heap[b]?) (ha : ∀ s b, am s = some b → am' s = some b) : ∀ (f : Fl) (fb o : Nat), ok fb → RFl w ok am f fb o → RFl w' ok' am' f fb o
  | .mk _ _ _ t, fb, _, hf, ⟨x, h1, h2⟩ => ⟨x, h1.keep (hk fb hf).2, RT.keep hk ha t x h2⟩
end
theorem RN.keep {nm : ByteArray} {T : Ty} {b : Nat} (hk : ∀ b, ok b → ok' b ∧ w'.heap[b]? = w.heap[b]?) (ha : ∀ s b, am s = some b → am' s = some b) (hb : ∀ i, i < 7 → w'.cell? ⟨b, i, none⟩ = w.cell? ⟨b, i, none⟩) (h : RN w ok am nm T b) : RN w' ok' am' nm T b := by
  obtain ⟨h0, e, ke, A, fl, fc, hT, hO, hE, h13, hF⟩ := h
  exact ⟨h0, e, ke, A, fl, fc, hT.keep hb, hO.keep hk, RE.keep hk ha _ e hE, h13, RF.keep hk ha _ A 0 hF⟩
end
end Go.Proofs.YtnmgocbmofbppaaGreatDoor
namespace Go.Proofs.YtnmgocbmofbppaaGreatDoor
open Go.RowKit



/-- A type's block as it is laid. -/
abbrev tb (k : Int) (nm : ByteArray) (e ke : Option Addr) (n : Int) (A : Option Addr) (fl fc : Nat) (mark : Int) : Obj :=
  .cells #[.int .u8 k, .string nm, .pointer e, .pointer ke, .int .i64 n, .slice A fl fc, .int .i64 mark, .nilIface] 111

theorem TB.new (w : World) (k : Int) (nm : ByteArray) (e ke : Option Nat) (n : Int) (A : Option Addr) (fl fc : Nat) (mark : Int) :
    TB (w.alloc (tb k nm (e.map fun x => ⟨x, 0, none⟩) (ke.map fun x => ⟨x, 0, none⟩) n A fl fc mark)) w.heap.size k nm e ke n A fl fc mark := by
  refine ⟨?_, ?_, ?_, ?_, ?_, ?_, ?_⟩ <;> simp [go_sem]
theorem info_new (w : World) (k : Int) (nm : ByteArray) (e ke : Option Addr) (n : Int) (A : Option Addr) (fl fc : Nat) (mark : Int) :
    Nil7 (w.alloc (tb k nm e ke n A fl fc mark)) w.heap.size := by constructor <;> simp [go_sem]

theorem Basic_any (k : Int) (nm : ByteArray) (w : World) :
    Calls Tryz.prog 51 #[.int .u8 k, .string nm] w fun e w' => e = .returned (.pointer (some ⟨w.heap.size, 0, none⟩)) ∧ w.alloc (tb k nm none none 0 none 0 0 0) = w' := by
  go_enter Tryz.func51, Tryz.ntmps51
  go_wp2
  go_ret
  exact ⟨rfl, rfl⟩
theorem AnyType_any (w : World) :
    Calls Tryz.prog 53 #[] w fun e w' => e = .returned (.pointer (some ⟨w.heap.size, 0, none⟩)) ∧ w.alloc (tb 13 ⟨#[]⟩ none none 0 none 0 0 0) = w' := by
  go_enter Tryz.func53, Tryz.ntmps53
  go_wp2
  go_ret
  exact ⟨rfl, rfl⟩
theorem TextType_any (w : World) :
    Calls Tryz.prog 56 #[] w fun e w' => e = .returned (.pointer (some ⟨w.heap.size, 0, none⟩)) ∧ w.alloc (tb 5 ⟨#[84, 101, 120, 116]⟩ none none 0 none 0 0 3) = w' := by
  go_enter Tryz.func56, Tryz.ntmps56
  go_wp2
  go_ret
  exact ⟨rfl, rfl⟩
theorem PointerTo_any (a : Option Addr) (w : World) :
    Calls Tryz.prog 57 #[.pointer a] w fun e w' => e = .returned (.pointer (some ⟨w.heap.size, 0, none⟩)) ∧ w.alloc (tb 17 ⟨#[]⟩ a none 0 none 0 0 0) = w' := by
  go_enter Tryz.func57, Tryz.ntmps57
  go_wp2
  go_ret
  exact ⟨rfl, rfl⟩

/-- A block that is a type, made by a call: it, and all it reads, is new. -/
def NewT (w : World) (T : Ty) (e : Ending) (w' : World) : Prop :=
  ∃ b, e = .returned (.pointer (some ⟨b, 0, none⟩)) ∧ RT w' (fun k => w.heap.size ≤ k ∧ k < w'.heap.size) (fun _ => none) T b ∧ Below w.heap.size w w'

theorem nameType_any (n : Int) (s : ByteArray) (w : World) : Calls Tryz.prog 54 #[] w (NewT w (.mk 7 n s [] [])) := by
  go_enter Tryz.func54, Tryz.ntmps54
  go_wp2_with (go_at_call 51; refine (Basic_any _ _ _).mono ?_; rintro e w1 ⟨rfl, rfl⟩)
  go_ret
  refine ⟨_, rfl, ?_, (((Below.refl _ _).alloc (Nat.le_refl _) _).alloc (by simp) _).alloc (by simp; omega) _⟩
  unfold RT
  rw [if_neg (by decide)]
  refine ⟨⟨by omega, by simp⟩, ⟨by simp [go_sem], by simp [go_sem]⟩, ⟨#[78, 97, 109, 101]⟩, by decide, by decide, none, none, some ⟨w.heap.size + 1, 0, none⟩, 2, 2, ⟨?_, ?_, ?_, ?_, ?_, ?_, ?_⟩, ⟨by simp, fun _ => ⟨rfl, w.heap.size + 1, rfl, ⟨by simp, by simp⟩, fun i hi => ?_⟩, by simp, by simp, by simp⟩, trivial, by simp, trivial⟩
  all_goals try (simp [go_sem, kOf, markOf]; done)
  obtain rfl | rfl : i = 0 ∨ i = 1 := by omega
  · exact ⟨⟨#[83, 112, 97, 99, 101]⟩, ⟨#[]⟩, w.heap.size, false, ⟨by simp [go_sem], by simp [go_sem], by simp [go_sem], by simp [go_sem]⟩, by decide, by decide⟩
  · exact ⟨⟨#[76, 111, 99, 97, 108]⟩, ⟨#[]⟩, w.heap.size, false, ⟨by simp [go_sem], by simp [go_sem], by simp [go_sem], by simp [go_sem]⟩, by decide, by decide⟩

theorem attrType_any (n : Int) (s : ByteArray) (w : World) : Calls Tryz.prog 55 #[] w (NewT w (.mk 8 n s [] [])) := by
  go_enter Tryz.func55, Tryz.ntmps55
  go_wp2_with (first | (go_at_call 54; refine (nameType_any 0 emptyB w).mono ?_; rintro e w1 ⟨b, rfl, hrt, hb1⟩; have HB := Lib.hid hb1; clear hb1 hrt) | (go_at_call 51; refine (Basic_any _ _ _).mono ?_; rintro e w2 ⟨rfl, rfl⟩))
  go_ret
  have hsz := HB.out.size
  refine ⟨_, rfl, ?_, HB.out.trans ((((Below.refl _ _).alloc (by omega) _).alloc (by simp; omega) _).alloc (by simp; omega) _)⟩
  unfold RT
  rw [if_neg (by decide)]
  refine ⟨⟨by omega, by simp⟩, ⟨by simp [go_sem], by simp [go_sem]⟩, ⟨#[65, 116, 116, 114]⟩, by decide, by decide, none, none, some ⟨w1.heap.size + 1, 0, none⟩, 2, 2, ⟨?_, ?_, ?_, ?_, ?_, ?_, ?_⟩, ⟨by simp, fun _ => ⟨rfl, w1.heap.size + 1, rfl, ⟨by omega, by simp⟩, fun i hi => ?_⟩, by simp, by simp, by simp⟩, trivial, by simp, trivial⟩
  all_goals try (simp [go_sem, kOf, markOf]; done)
  obtain rfl | rfl : i = 0 ∨ i = 1 := by omega
  · exact ⟨⟨#[78, 97, 109, 101]⟩, ⟨#[]⟩, b, false, ⟨by simp [go_sem], by simp [go_sem], by simp [go_sem], by simp [go_sem]⟩, by decide, by decide⟩
  · exact ⟨⟨#[86, 97, 108, 117, 101]⟩, ⟨#[]⟩, w1.heap.size, false, ⟨by simp [go_sem], by simp [go_sem], by simp [go_sem], by simp [go_sem]⟩, by decide, by decide⟩

/-- A number's type: told where there is one. -/
def NumPost (w : World) (T : Ty) (e : Ending) (w' : World) : Prop :=
  (∃ p, e = .returned (.tuple #[.pointer p, .bool false]) ∧ Below w.heap.size w w') ∨
  ∃ b, e = .returned (.tuple #[.pointer (some ⟨b, 0, none⟩), .bool true]) ∧ RT w' (fun k => w.heap.size ≤ k ∧ k < w'.heap.size) (fun _ => none) T b ∧ Below w.heap.size w w'

theorem rt_leaf {w : World} {ok : Nat → Prop} {am : ByteArray → Option Nat} {k n : Int} {s nm : ByteArray} {b : Nat} (hk : k ≠ 14) (hb : ok b) (h7 : Nil7 w b) (h1 : nm.size = 0 ↔ (k = 6 ∨ 9 ≤ k ∧ k ≤ 13)) (h2 : nm.size ≤ 100)
    (hT : TB w b (kOf k n) nm none none 0 none 0 0 (markOf k)) (h : k = 1 ∨ k = 2 ∨ k = 3 ∨ k = 4 ∨ k = 5 ∨ k = 6 ∨ k = 15) : RT w ok am (.mk k n s [] []) b := by
  unfold RT
  rw [if_neg hk]
  refine ⟨hb, h7, nm, h1, h2, none, none, none, 0, 0, ?_, ⟨by omega, by omega, fun _ _ _ => ⟨rfl, rfl⟩, fun _ _ _ _ => rfl, fun _ => rfl⟩, trivial, by omega, trivial⟩
  rw [if_neg (by omega)]
  exact hT

theorem leaf_new {W : World} {b : Nat} {ok : Nat → Prop} {am : ByteArray → Option Nat} {k n K m : Int} {s nm : ByteArray} (hb : W.heap.size = b) (hk : k ≠ 14) (hK : kOf k n = K) (hm : markOf k = m) (h1 : nm.size = 0 ↔ (k = 6 ∨ 9 ≤ k ∧ k ≤ 13)) (h2 : nm.size ≤ 100)
    (hok : ok b) (h : k = 1 ∨ k = 2 ∨ k = 3 ∨ k = 4 ∨ k = 5 ∨ k = 6 ∨ k = 15) : RT (W.alloc (tb K nm none none 0 none 0 0 m)) ok am (.mk k n s [] []) b := by
  subst hb hK hm
  exact rt_leaf hk hok (info_new _ _ _ _ _ _ _ _ _ _) h1 h2 (TB.new W _ nm none none 0 none 0 0 _) h
theorem num_cases (n : Int) : n = 8 ∨ n = 16 ∨ n = 32 ∨ n = 64 ∨ (n ≠ 8 ∧ n ≠ 16 ∧ n ≠ 32 ∧ n ≠ 64) := by omega
set_option maxHeartbeats 1600000 in
theorem number_any (u : Bool) (n : Int) (s : ByteArray) (w : World) :
    Calls Tryz.prog 52 (if u then #[.int .i64 n, .agg #[.int .u8 6, .int .u8 7, .int .u8 8, .int .u8 9], .string ⟨#[117, 105, 110, 116]⟩] else #[.int .i64 n, .agg #[.int .u8 2, .int .u8 3, .int .u8 4, .int .u8 5], .string ⟨#[105, 110, 116]⟩]) w
      (NumPost w (.mk (if u then 3 else 2) n s [] [])) := by
  cases u
  all_goals
    simp only [Bool.false_eq_true, if_false, if_true]
    rcases num_cases n with rfl | rfl | rfl | rfl | ⟨h8, h16, h32, h64⟩
    · go_enter Tryz.func52, Tryz.ntmps52
      go_wp2_with (go_at_call 51; refine (Basic_any _ _ _).mono ?_; rintro e w1 ⟨rfl, rfl⟩)
      go_ret2
      refine Or.inr ⟨_, rfl, leaf_new (by simp) (by decide) (by decide) (by decide) (by decide) (by decide) ⟨by omega, by simp⟩ (by decide), ?_⟩
      · exact ((Below.refl _ _).alloc (Nat.le_refl _) _).alloc (by simp) _
    · go_enter Tryz.func52, Tryz.ntmps52
      go_wp2_with (go_at_call 51; refine (Basic_any _ _ _).mono ?_; rintro e w1 ⟨rfl, rfl⟩)
      go_ret2
      refine Or.inr ⟨_, rfl, leaf_new (by simp) (by decide) (by decide) (by decide) (by decide) (by decide) ⟨by omega, by simp⟩ (by decide), ?_⟩
      · exact ((Below.refl _ _).alloc (Nat.le_refl _) _).alloc (by simp) _
    · go_enter Tryz.func52, Tryz.ntmps52
      go_wp2_with (go_at_call 51; refine (Basic_any _ _ _).mono ?_; rintro e w1 ⟨rfl, rfl⟩)
      go_ret2
      refine Or.inr ⟨_, rfl, leaf_new (by simp) (by decide) (by decide) (by decide) (by decide) (by decide) ⟨by omega, by simp⟩ (by decide), ?_⟩
      · exact ((Below.refl _ _).alloc (Nat.le_refl _) _).alloc (by simp) _
    · go_enter Tryz.func52, Tryz.ntmps52
      go_wp2_with (go_at_call 51; refine (Basic_any _ _ _).mono ?_; rintro e w1 ⟨rfl, rfl⟩)
      go_ret2
      refine Or.inr ⟨_, rfl, leaf_new (by simp) (by decide) (by decide) (by decide) (by decide) (by decide) ⟨by omega, by simp⟩ (by decide), ?_⟩
      · exact ((Below.refl _ _).alloc (Nat.le_refl _) _).alloc (by simp) _
    · go_enter Tryz.func52, Tryz.ntmps52
      go_wp2
      go_ret2
      exact Or.inl ⟨_, rfl, (Below.refl _ _).alloc (Nat.le_refl _) _⟩
end Go.Proofs.YtnmgocbmofbppaaGreatDoor
namespace Go.Proofs.YtnmgocbmofbppaaGreatDoor
open Go.RowKit Go.Proofs

/-- Go's tables of letters, digits and capitals lie below B (the tables may be any). -/
def Uni (U : Lib.RTab) (B : Nat) (w : World) : Prop := ∃ L D : Lib.RTab, Lib.RTabOk L ∧ Lib.RTabOk D ∧ Lib.RTabOk U ∧ ∀ w', Below B w w' → Lib.TabIs Tryz.prog w' "unicode.properties" .u8 Lib.propertiesTab ∧ Lib.RVar 2 L w' ∧ Lib.RVar 3 D w' ∧ Lib.RVar 4 U w'
theorem Uni.keep {U : Lib.RTab} {B : Nat} {w w' : World} (h : Uni U B w) (hb : Below B w w') : Uni U B w' := by
  obtain ⟨L, D, h1, h2, h3, h4⟩ := h
  exact ⟨L, D, h1, h2, h3, fun w'' k => h4 w'' (hb.trans k)⟩

theorem width_pos (s : ByteArray) (pos : Nat) (h : pos < s.size) : 1 ≤ (Utf8.decode s pos).2 := by
  by_cases ha : (s[pos]'h).toNat < 128
  · rw [decode_ascii s pos h ha]
    exact Nat.le_refl _
  · exact (decode_high s pos h (by omega)).2

theorem basic_any (s : ByteArray) (w : World) : Calls Tryz.prog 29 #[.string s] w fun e w' => ∃ r, e = .returned (.bool r) ∧ Below w.heap.size w w' := by
  go_enter Tryz.func29, Tryz.ntmps29
  go_wp2
  all_goals go_ret
  all_goals exact ⟨_, rfl, Below.refl _ _⟩

theorem eq_empty {s : ByteArray} (e : s.size = 0) : s = ⟨#[]⟩ := by
  obtain ⟨d⟩ := s
  have : d = #[] := Array.eq_empty_of_size_eq_zero e
  rw [this]

/-- Letters and digits, whatever the tables are. -/
def RuneP (w : World) (e : Ending) (w' : World) : Prop := ∃ q, e = .returned (.bool q) ∧ Below w.heap.size w w'
theorem letter_any {U : Lib.RTab} {B : Nat} {w : World} (hU : Uni U B w) (W : World) (hb : Below B w W) (c : Nat) (hc : c ≤ 2147483647) : Calls Tryz.prog 49 #[.int .i32 c] W (RuneP W) := by
  obtain ⟨L, D, hL, hD, hU1, hT⟩ := hU
  have h := hT W hb
  exact (Tryz.unicode_IsLetter_any L _ W (by omega) (by omega) h.1 h.2.1 hL).mono fun e w' k => ⟨_, k.1, k.2⟩
theorem digit_any {U : Lib.RTab} {B : Nat} {w : World} (hU : Uni U B w) (W : World) (hb : Below B w W) (c : Nat) (hc : c ≤ 2147483647) : Calls Tryz.prog 50 #[.int .i32 c] W (RuneP W) := by
  obtain ⟨L, D, hL, hD, hU1, hT⟩ := hU
  have h := hT W hb
  exact (Tryz.unicode_IsDigit_any D _ W (by omega) (by omega) h.2.2.1 hD).mono fun e w' k => ⟨_, k.1, k.2⟩

set_option maxHeartbeats 1600000 in
set_option maxRecDepth 100000 in
theorem word_any {U : Lib.RTab} {B : Nat} (s : ByteArray) (hs : s.size ≤ 140737488351232) (w : World) (hB : B ≤ w.heap.size) (hU : Uni U B w) :
    Calls Tryz.prog 28 #[.string s] w fun e w' => ∃ r, e = .returned (.bool r) ∧ (r = true → s.size ≠ 0 ∧ s.size ≤ 100) ∧ Below w.heap.size w w' := by
  have HU := Lib.hid hU
  clear hU
  go_enter Tryz.func28, Tryz.ntmps28
  go_upto_region 1 with fail
  go_cut [15] (fun s15 wx => ∃ r, s15 = .bool r ∧ w = wx ∧ (r = false → s.size ≠ 0 ∧ s.size ≤ 100))
  case first =>
    go_wp2
    all_goals go_meet
    · exact ⟨_, rfl, rfl, fun h => nomatch h⟩
    · exact ⟨_, rfl, rfl, fun h => nomatch h⟩
    · rename_i h1 h2
      refine ⟨_, rfl, rfl, fun h => ⟨fun e => ?_, by simp at h; omega⟩⟩
      rw [eq_empty e] at h1
      rw [show (⟨#[]⟩ : ByteArray).toList.isEmpty = true by simp [ByteArray.toList, ByteArray.toList.loop, ByteArray.size]] at h1
      cases h1
  case rest =>
    obtain ⟨r, rfl, rfl, hr⟩ := hcut
    cases r with
    | true =>
      go_wp2
      go_ret
      exact ⟨false, rfl, (fun h => nomatch h), Below.refl _ _⟩
    | false =>
      replace hr := hr rfl
      have HR := Lib.hid hr
      clear hr
      go_wp2
      go_loopw [18] (fun _ wr => ∃ pos, wr.heap[w.heap.size]? = some (.stringIter s pos) ∧ Below w.heap.size w wr) (fun _ wr => s.size - wr.iterPos w.heap.size)
      case atStart => exact ⟨0, by simpa using World.iter_heap w s 0, (Below.refl _ _).alloc (Nat.le_refl _) _⟩
      case round =>
        obtain ⟨pos, hit, hbw⟩ := hrel
        have hsz : w.heap.size < wr.heap.size := (Array.getElem?_eq_some_iff.1 hit).1
        by_cases hp : pos < s.size
        · have hnx : ∀ ty, (Instr.next (.pointer (some ⟨w.heap.size, 0, none⟩)) true ty).run Tryz.prog wr = _ := fun ty => Lib.run_next_any_at wr w.heap.size s pos ty hit hp
          have hwd := width_pos s pos hp
          have hd1 := decode_le s pos
          have hit2 := Lib.iterAt_heap wr w.heap.size s pos (pos + (Utf8.decode s pos).2) hit
          have hbw2 := Lib.below_iterAt hbw (k := w.heap.size) (Nat.le_refl _) s (pos + (Utf8.decode s pos).2)
          have HBW := Lib.hid hbw2
          have HIT := Lib.hid hit2
          have hsz2 : (wr.iterAt w.heap.size s (pos + (Utf8.decode s pos).2)).heap.size = wr.heap.size := Lib.iterAt_size _ _ _ _
          clear hbw hbw2 hit2
          go_upto_region 6 with fail
          go_cut [41] (fun s41 wx => ∃ q, s41 = .bool q ∧ wx.heap[w.heap.size]? = some (.stringIter s (pos + (Utf8.decode s pos).2)) ∧ Below w.heap.size w wx)
          case first =>
            generalize hW : wr.iterAt w.heap.size s (pos + (Utf8.decode s pos).2) = W at HIT HBW hsz2 ⊢
            have hWs : w.heap.size < W.heap.size := by omega
            go_wp2_with (first | (go_at_call 49; refine (letter_any HU.out _ (HBW.out.mono hB) _ hd1).mono ?_; rintro e w2 ⟨q, rfl, hb2⟩; have hs2 := Nat.lt_of_lt_of_le hWs hb2.size; have HIT2 := Lib.hid ((hb2.block _ hWs).trans HIT.out); have HB2 := Lib.hid (HBW.out.trans (hb2.mono (by omega))); clear hb2; cases q) | (go_at_call 50; first | (refine (digit_any HU.out _ (HB2.out.mono hB) _ hd1).mono ?_; rintro e w3 ⟨q, rfl, hb3⟩; have HIT3 := Lib.hid ((hb3.block _ hs2).trans HIT2.out); have HB3 := Lib.hid (HB2.out.trans (hb3.mono (by omega))); clear hb3; cases q) | (refine (digit_any HU.out _ (HBW.out.mono hB) _ hd1).mono ?_; rintro e w3 ⟨q, rfl, hb3⟩; have HIT3 := Lib.hid ((hb3.block _ hWs).trans HIT.out); have HB3 := Lib.hid (HBW.out.trans (hb3.mono (by omega))); clear hb3; cases q)))
            all_goals go_meet
            all_goals first
              | exact ⟨_, rfl, HIT3.out, HB3.out⟩
              | exact ⟨_, rfl, HIT2.out, HB2.out⟩
              | exact ⟨_, rfl, HIT.out, HBW.out⟩
          case rest =>
            obtain ⟨q, rfl, h1, h2⟩ := hcut
            have HBW := Lib.hid h2
            clear h2
            cases q with
            | true =>
              go_wp2
              go_ret
              exact ⟨false, rfl, (fun h => nomatch h), HBW.out⟩
            | false =>
              go_wp2
              go_roundw
              case rel => exact ⟨_, h1, HBW.out⟩
              case measure =>
                simp only [World.iterPos, h1, hit]
                omega
        · have hnx : ∀ ty, (Instr.next (.pointer (some ⟨w.heap.size, 0, none⟩)) true ty).run Tryz.prog wr = _ := fun ty => Lib.run_next_end_at wr w.heap.size s pos ty hit hp
          go_wp2
          go_ret
          exact ⟨true, rfl, fun _ => HR.out, hbw⟩
end Go.Proofs.YtnmgocbmofbppaaGreatDoor
namespace Go.Proofs.YtnmgocbmofbppaaGreatDoor
open Go.RowKit

abbrev Am := ByteArray → Option Nat
def Am.put (am : Am) (s : ByteArray) (b : Nat) : Am := fun t => if t = s then some b else am t
/-- Map block mm has the types' blocks under their names. -/
def MadeAt (w : World) (mm : Nat) (am : Am) : Prop := ∃ lv : AL Value, SMap w mm lv ∧ ∀ s, lv.get s = (am s).map fun b => Value.pointer (some ⟨b, 0, none⟩)

structure MPre (w : World) (B bk mn mm : Nat) (env : AL Ty) (am : Am) (left : Int) : Prop where
  c0 : w.cell? ⟨bk, 0, none⟩ = some (.map (some mn))
  c1 : w.cell? ⟨bk, 1, none⟩ = some (.map (some mm))
  c2 : w.cell? ⟨bk, 2, none⟩ = some (.int .i64 left)
  nf : w.frozen? ⟨bk, 2, none⟩ = false
  nm : NamedAt w (· < B) mn env
  ma : MadeAt w mm am
  hB : B ≤ bk
  hBm : B ≤ mm
  hmn : mn ≠ bk
  hmm : mm ≠ bk
  hmmn : mm ≠ mn
  hlt : bk < w.heap.size
  old : ∀ s b, am s = some b → b < w.heap.size
section
variable {w w' : World} {B bk mn mm : Nat} {env : AL Ty} {am : Am} {left : Int}
theorem MPre.ltm (h : MPre w B bk mn mm env am left) : mm < w.heap.size := by
  obtain ⟨lv, h1, _⟩ := h.ma; exact h1.lt
theorem MPre.ext {S : Nat → Prop} (h : MPre w B bk mn mm env am left) (hx : Ext S w w') (hS : ∀ k, S k → B ≤ k ∧ k ≠ bk ∧ k ≠ mm ∧ k ≠ mn) : MPre w' B bk mn mm env am left := by
  have h1 := h.hlt
  have h2 := h.ltm
  have h3 := h.nm.ltm
  have hb : ∀ k, k < w.heap.size → (k < B ∨ k = bk ∨ k = mm ∨ k = mn) → w'.heap[k]? = w.heap[k]? := fun k hk ho => hx.block k hk fun e => by have := hS k e; omega
  obtain ⟨lv, hm1, hm2⟩ := h.ma
  exact ⟨(World.cell?_of_block (hb bk h1 (by omega))).trans h.c0, (World.cell?_of_block (hb bk h1 (by omega))).trans h.c1, (World.cell?_of_block (hb bk h1 (by omega))).trans h.c2, (World.frozen?_of_block (hb bk h1 (by omega))).trans h.nf,
    h.nm.keep (hb mn h3 (by omega)) fun b hbB => ⟨hbB, hb b (by have := h.hB; omega) (.inl hbB)⟩, ⟨lv, hm1.keep (hb mm h2 (by omega)), hm2⟩, h.hB, h.hBm, h.hmn, h.hmm, h.hmmn, Nat.lt_of_lt_of_le h1 hx.size, fun s b e => Nat.lt_of_lt_of_le (h.old s b e) hx.size⟩
theorem MPre.alloc (h : MPre w B bk mn mm env am left) (o : Obj) : MPre (w.alloc o) B bk mn mm env am left := h.ext (Ext.alloc (S := fun _ => False) w o) fun _ e => e.elim
theorem MPre.of_heap (h : MPre w B bk mn mm env am left) (e : w'.heap = w.heap) : MPre w' B bk mn mm env am left := by
  obtain ⟨lv, hm1, hm2⟩ := h.ma
  exact ⟨(World.cell?_of_block (by rw [e])).trans h.c0, (World.cell?_of_block (by rw [e])).trans h.c1, (World.cell?_of_block (by rw [e])).trans h.c2, (World.frozen?_of_block (by rw [e])).trans h.nf, h.nm.keep (by rw [e]) fun b hb => ⟨hb, by rw [e]⟩, ⟨lv, hm1.keep (by rw [e]), hm2⟩, h.hB, h.hBm, h.hmn, h.hmm, h.hmmn, by rw [e]; exact h.hlt, by rw [e]; exact h.old⟩
theorem MPre.set_ (h : MPre w B bk mn mm env am left) (x : Int) : MPre (w.setCell ⟨bk, 2, none⟩ (.int .i64 x)) B bk mn mm env am x := by
  have hb : ∀ k, k ≠ bk → (w.setCell ⟨bk, 2, none⟩ (.int .i64 x)).heap[k]? = w.heap[k]? := fun k hk => Below.heap_setCell w _ _ k hk
  obtain ⟨lv, hm1, hm2⟩ := h.ma
  refine ⟨?_, ?_, ?_, ?_, h.nm.keep (hb mn h.hmn) fun b hbB => ⟨hbB, hb b (by have := h.hB; omega)⟩, ⟨lv, hm1.keep (hb mm h.hmm), hm2⟩, h.hB, h.hBm, h.hmn, h.hmm, h.hmmn, by simpa [World.setCell] using h.hlt, fun s b e => by simpa [World.setCell] using h.old s b e⟩
  · rw [World.cell?_setCell_other (h := fun e => by injection e with e1 e2; omega)]
    exact h.c0
  · rw [World.cell?_setCell_other (h := fun e => by injection e with e1 e2; omega)]
    exact h.c1
  · exact World.cell?_setCell_same _ _ _ h.c2
  · rw [World.frozen?_setCell]; exact h.nf
end

/-- What is done at a step of make and its like: only blocks of S have turned, there may be new names. -/
structure MStep (S : Nat → Prop) (w w' : World) (B bk mn mm : Nat) (env : AL Ty) (am am' : Am) (L : Int) : Prop where
  pre : MPre w' B bk mn mm env am' L
  sub : ∀ s b, am s = some b → am' s = some b
  new : ∀ s b, am' s = some b → am s = none → w.heap.size ≤ b ∧ b < w'.heap.size
  ext : Ext S w w'
/-- New blocks that are no named types'. -/
def Fresh (w w' : World) (am : Am) (k : Nat) : Prop := w.heap.size ≤ k ∧ k < w'.heap.size ∧ ∀ s, am s ≠ some k
/-- A named type's block is done. -/
def Done (w : World) (ok : Nat → Prop) (am : Am) (env : AL Ty) (s : ByteArray) (b : Nat) : Prop := Nil7 w b ∧ ∃ T, env.get s = some T ∧ RN w ok am s T b
/-- All names that are new are done. -/
def Dones (w w' : World) (am am' : Am) (env : AL Ty) : Prop := ∀ s b, am' s = some b → am s = none → Done w' (Fresh w w' am') am' env s b

section
variable {S S' : Nat → Prop} {w w1 w2 : World} {B bk mn mm : Nat} {env : AL Ty} {am am1 am2 : Am} {L L2 : Int}
theorem MStep.refl (h : MPre w B bk mn mm env am L) (S : Nat → Prop) : MStep S w w B bk mn mm env am am L := ⟨h, fun _ _ e => e, fun s b e1 e2 => by simp [e1] at e2, Ext.refl _ _⟩
theorem MStep.trans (h : MStep S w w1 B bk mn mm env am am1 L) (k : MStep S w1 w2 B bk mn mm env am1 am2 L2) : MStep S w w2 B bk mn mm env am am2 L2 := by
  refine ⟨k.pre, fun s b e => k.sub s b (h.sub s b e), fun s b e1 e2 => ?_, h.ext.trans k.ext⟩
  have hs1 := h.ext.size
  have hs2 := k.ext.size
  cases e : am1 s with
  | none =>
    have := k.new s b e1 e
    omega
  | some c =>
    have e3 := k.sub s c e
    obtain rfl : c = b := by rw [e3] at e1; exact Option.some.inj e1
    have := h.new s c e e2
    omega
theorem MStep.mono (h : MStep S w w1 B bk mn mm env am am1 L) (hs : ∀ k, k < w.heap.size → S k → S' k) : MStep S' w w1 B bk mn mm env am am1 L := ⟨h.pre, h.sub, h.new, h.ext.mono hs⟩
/-- What is new from an early world on is there in a later one. -/
theorem Fresh.trans (h : MStep S w w1 B bk mn mm env am am1 L) (k : MStep S' w1 w2 B bk mn mm env am1 am2 L2) {i : Nat} (hi : Fresh w w1 am1 i) : Fresh w w2 am2 i := by
  obtain ⟨h1, h2, h3⟩ := hi
  refine ⟨h1, Nat.lt_of_lt_of_le h2 k.ext.size, fun s e => ?_⟩
  cases e1 : am1 s with
  | none => have := k.new s i e e1; omega
  | some c =>
    have e3 := k.sub s c e1
    rw [e] at e3
    exact h3 s (e1.trans e3.symm)
theorem Fresh.late (h : w.heap.size ≤ w1.heap.size) {i : Nat} (hi : Fresh w1 w2 am i) : Fresh w w2 am i := ⟨Nat.le_trans h hi.1, hi.2⟩
theorem fresh_keep (h : MStep S w w1 B bk mn mm env am am1 L) (k : MStep S' w1 w2 B bk mn mm env am1 am2 L2) (hS : ∀ i, S' i → i < w.heap.size) (i : Nat) (hi : Fresh w w1 am1 i) : Fresh w w2 am2 i ∧ w2.heap[i]? = w1.heap[i]? :=
  ⟨hi.trans h k, k.ext.block i hi.2.1 fun e => by have := hS i e; have := hi.1; omega⟩
theorem RT.step (h : MStep S w w1 B bk mn mm env am am1 L) (k : MStep S' w1 w2 B bk mn mm env am1 am2 L2) (hS : ∀ i, S' i → i < w.heap.size) {T : Ty} {b : Nat} (hT : RT w1 (Fresh w w1 am1) am1 T b) : RT w2 (Fresh w w2 am2) am2 T b :=
  RT.keep (fresh_keep h k hS) k.sub T b hT
theorem Done.mono {ok ok' : Nat → Prop} {s : ByteArray} {b : Nat} (hk : ∀ i, ok i → ok' i ∧ w2.heap[i]? = w1.heap[i]?) (hs : ∀ s b, am1 s = some b → am2 s = some b) (hb : w2.heap[b]? = w1.heap[b]?) (h : Done w1 ok am1 env s b) : Done w2 ok' am2 env s b := by
  obtain ⟨h7, T, h1, h2⟩ := h
  exact ⟨h7.keep hb, T, h1, h2.keep hk hs fun i _ => World.cell?_of_block hb⟩
theorem Dones.refl (w : World) (am : Am) (env : AL Ty) : Dones w w am am env := fun s b e1 e2 => by simp [e1] at e2
theorem Dones.trans (h : MStep S w w1 B bk mn mm env am am1 L) (k : MStep S' w1 w2 B bk mn mm env am1 am2 L2) (hS : ∀ i, S' i → i < w.heap.size) (d1 : Dones w w1 am am1 env) (d2 : Dones w1 w2 am1 am2 env) : Dones w w2 am am2 env := by
  intro s b e1 e2
  cases e : am1 s with
  | none => exact (d2 s b e1 e).mono (fun i hi => ⟨hi.late h.ext.size, rfl⟩) (fun _ _ e => e) rfl
  | some c =>
    have e3 := k.sub s c e
    obtain rfl : c = b := by rw [e3] at e1; exact Option.some.inj e1
    have hn := h.new s c e e2
    exact (d1 s c e e2).mono (fresh_keep h k hS) k.sub (k.ext.block c hn.2 fun e => by have := hS c e; omega)
theorem Dones.step (h : MStep S w w1 B bk mn mm env am am1 L) (k : MStep S' w1 w2 B bk mn mm env am1 am1 L2) (hS : ∀ i, S' i → i < w.heap.size) (d1 : Dones w w1 am am1 env) : Dones w w2 am am1 env :=
  Dones.trans h k hS d1 fun s b e1 e2 => by simp [e1] at e2
theorem MStep.alloc (h : MPre w B bk mn mm env am L) (S : Nat → Prop) (o : Obj) : MStep S w (w.alloc o) B bk mn mm env am am L := ⟨h.alloc o, fun _ _ e => e, fun s b e1 e2 => by simp [e1] at e2, Ext.alloc _ _⟩
theorem MStep.below (h : MPre w B bk mn mm env am L) (S : Nat → Prop) (hb : Below w.heap.size w w1) : MStep S w w1 B bk mn mm env am am L :=
  ⟨h.ext (S := fun _ => False) (Ext.of_below hb) fun _ e => e.elim, fun _ _ e => e, fun s b e1 e2 => by simp [e1] at e2, Ext.of_below hb⟩
end

/-- What make and byName leave. -/
def MakePost (w : World) (B bk mn mm : Nat) (env : AL Ty) (am : Am) (left : Int) (deep : Int) (T : Ty) (e : Ending) (w' : World) : Prop :=
  ∃ p ok L am', e = .returned (.tuple #[.pointer p, .bool ok]) ∧ MStep (fun k => k = bk ∨ k = mm) w w' B bk mn mm env am am' L ∧ L ≤ left ∧ -2001 * (102 - deep) ≤ L ∧
    (ok = true → 0 ≤ L ∧ (∃ b, p = some ⟨b, 0, none⟩ ∧ RT w' (Fresh w w' am') am' T b) ∧ Dones w w' am am' env)
/-- The environment's types are as laws let them by, none of them named. -/
def EnvOk (env : AL Ty) : Prop := ∀ s T, env.get s = some T → T.wf ∧ T.sz ≤ 2000 ∧ T.kind ≠ 14
def MakeOk (U : Lib.RTab) (B bk mn mm : Nat) (env : AL Ty) (N : Nat) : Prop :=
  ∀ (w : World) (am : Am) (left deep : Int) (T : Ty) (cs : List Value), left.toNat < N → left ≤ 1000000 → 0 ≤ left → 0 ≤ deep → deep ≤ 101 → T.wf → T.sz ≤ 2000 → MPre w B bk mn mm env am left → Uni U B w → TyV w (· < B) T cs →
    Calls Tryz.prog 30 #[.pointer (some ⟨bk, 0, none⟩), .agg cs.toArray, .int .i64 deep] w (MakePost w B bk mn mm env am left deep T)

/-- The cells of fields. -/
def fcells : List Fl → List Nat → List Value
  | f :: fs, b :: bs => .string f.name :: .string f.tag :: .pointer (some ⟨b, 0, none⟩) :: .bool f.emb :: fcells fs bs
  | _, _ => []
end Go.Proofs.YtnmgocbmofbppaaGreatDoor
