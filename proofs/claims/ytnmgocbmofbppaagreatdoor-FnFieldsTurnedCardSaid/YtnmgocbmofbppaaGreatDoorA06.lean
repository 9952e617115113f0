/- make. -/
import Derived.Test.YtnmgocbmofbppaaGreatDoorA04
import Derived.Test.YtnmgocbmofbppaaGreatDoorA05
import Derived.KernelRfl
import Derived.Outline
import Derived.BigGuardPart
import Derived.Deep.DeepMust
import Derived.Deep.LoopGhost
import Derived.Deep.DeepCutAuto
import Derived.Deep.CutBlock
import Derived.Deep.QuietTactic
import Derived.BigQuiet
import Derived.Lib.Hide
import Derived.WalkSpells
import Derived.Deep.Light
import Derived.Deep.RegionWith
import Derived.WalkLawsBesides
import Derived.StillTailTactics

set_option linter.unusedVariables false
set_option linter.unusedSimpArgs false

namespace Go.Proofs.YtnmgocbmofbppaaGreatDoor
open Go.RowKit

/-- make's contract at one type. -/
def MakeAt (U : Lib.RTab) (B bk mn mm : Nat) (env : AL Ty) (N : Nat) (T : Ty) : Prop :=
  ∀ (w : World) (am : Am) (left deep : Int) (cs : List Value), left.toNat < N → left ≤ 1000000 → 0 ≤ left → 0 ≤ deep → deep ≤ 101 → T.wf → T.sz ≤ 2000 → MPre w B bk mn mm env am left → Uni U B w → TyV w (· < B) T cs →
    Calls Tryz.prog 30 #[.pointer (some ⟨bk, 0, none⟩), .agg cs.toArray, .int .i64 deep] w (MakePost w B bk mn mm env am left deep T)
section
variable {w wc w2 : World} {B bk mn mm : Nat} {env : AL Ty} {am : Am} {left deep L : Int} {T : Ty}
/-- It fails. -/
theorem MakePost.bad {p : Option Addr} {e : Ending} {am' : Am} (he : e = .returned (.tuple #[.pointer p, .bool false])) (h : MStep (fun k => k = bk ∨ k = mm) w wc B bk mn mm env am am' L) (h1 : L ≤ left) (h2 : -2001 * (102 - deep) ≤ L) :
    MakePost w B bk mn mm env am left deep T e wc := ⟨p, false, L, am', he, h, h1, h2, fun h => nomatch h⟩
/-- A new block, and no more. -/
theorem MakePost.leaf {b : Nat} {e : Ending} (he : e = .returned (.tuple #[.pointer (some ⟨b, 0, none⟩), .bool true])) (h : MStep (fun k => k = bk ∨ k = mm) w wc B bk mn mm env am am L) (hb : Below wc.heap.size wc w2) (h0 : 0 ≤ L) (h1 : L ≤ left) (h2 : -2001 * (102 - deep) ≤ L) 
    (hr : RT w2 (fun k => wc.heap.size ≤ k ∧ k < w2.heap.size) (fun _ => none) T b) : MakePost w B bk mn mm env am left deep T e w2 := by
  have hm := MStep.below h.pre (fun k => k = bk ∨ k = mm) hb
  refine ⟨_, true, L, am, he, h.trans hm, h1, h2, fun _ => ⟨h0, ⟨b, rfl, RT.keep (fun i hi => ⟨⟨Nat.le_trans h.ext.size hi.1, hi.2, fun s e => ?_⟩, rfl⟩) (fun _ _ e => by cases e) _ _ hr⟩, fun s b e1 e2 => by simp [e1] at e2⟩⟩
  have := h.pre.old s i e
  have := hi.1
  omega
end

set_option maxHeartbeats 1600000 in
set_option maxRecDepth 100000 in
theorem make_bool {U : Lib.RTab} {B bk mn mm : Nat} {env : AL Ty} {N : Nat} (n : Int) (s : ByteArray) : MakeAt U B bk mn mm env N (.mk 1 n s [] []) := by
  intro w am left deep cs hN hl6 hl0 hd0 hd1 hwf hsz h hU hT
  obtain ⟨A, co, D, cf, rfl, hbig, hof, hfs⟩ := hT
  have c2 := h.c2
  have nf := h.nf
  have hlt := h.hlt
  have hmt := h.ltm
  have H := Lib.hid h
  clear h hU hof hfs hbig
  go_enter Tryz.func30, Tryz.ntmps30
  go_upto_region 1 with fail
  go_cut [] (fun wx => MStep (fun k => k = bk ∨ k = mm) w wx B bk mn mm env am am (left - 1) ∧ Box5' wx w.heap.size (.int .i64 1) (.int .i64 n) (.string s) (.slice A 0 co) (.slice D 0 cf) ∧ w.heap.size < wx.heap.size)
  case first =>
    go_wp2
    go_meet
    exact ⟨⟨(H.out.set_ _).alloc _, fun _ _ e => e, fun s b e1 e2 => by simp [e1] at e2, (Ext.setCell (S := fun k => k = bk ∨ k = mm) w (a := ⟨bk, 2, none⟩) (.inl rfl) _).trans (Ext.alloc _ _)⟩, Box5'.new' (by simp [World.setCell]) _ _ _ _ _ _, by simp [World.setCell]⟩
  case rest =>
    obtain ⟨hm, ⟨d0, d1, d2, d3, d4⟩, hs⟩ := hcut
    clear c2 nf
    have c2 := hm.pre.c2
    have HM := Lib.hid hm
    clear hm
    by_cases hdp : 100 < deep
    · go_wp2
      go_ret2
      exact MakePost.bad rfl HM.out (by omega) (by omega)
    · by_cases hl : left - 1 < 0
      · go_wp2
        go_ret2
        exact MakePost.bad rfl HM.out (by omega) (by omega)
      · go_wp2_with fail
        all_goals first
          | (go_ret2; exact MakePost.bad rfl HM.out (by omega) (by omega))
          | skip
        go_loopw [83] (fun i wr => i = .int .i64 0 ∧ wc = wr) (fun _ _ => 0)
        case atStart => exact ⟨rfl, rfl⟩
        case round =>
          obtain ⟨rfl, rfl⟩ := hrel
          go_wp2_with (go_at_call 51; refine (Basic_any _ _ _).mono ?_; rintro e w1 ⟨rfl, rfl⟩)
          go_ret2
          exact MakePost.leaf rfl HM.out ((Below.refl _ _).alloc (Nat.le_refl _) _) (by omega) (by omega) (by omega) (leaf_new rfl (by decide) (by simp [kOf]) (by decide) (by decide) (by decide) ⟨Nat.le_refl _, by simp⟩ (by decide))

set_option maxHeartbeats 1600000 in
set_option maxRecDepth 100000 in
theorem make_string {U : Lib.RTab} {B bk mn mm : Nat} {env : AL Ty} {N : Nat} (n : Int) (s : ByteArray) : MakeAt U B bk mn mm env N (.mk 5 n s [] []) := by
  intro w am left deep cs hN hl6 hl0 hd0 hd1 hwf hsz h hU hT
  obtain ⟨A, co, D, cf, rfl, hbig, hof, hfs⟩ := hT
  have c2 := h.c2
  have nf := h.nf
  have hlt := h.hlt
  have hmt := h.ltm
  have H := Lib.hid h
  clear h hU hof hfs hbig
  go_enter Tryz.func30, Tryz.ntmps30
  go_upto_region 1 with fail
  go_cut [] (fun wx => MStep (fun k => k = bk ∨ k = mm) w wx B bk mn mm env am am (left - 1) ∧ Box5' wx w.heap.size (.int .i64 5) (.int .i64 n) (.string s) (.slice A 0 co) (.slice D 0 cf) ∧ w.heap.size < wx.heap.size)
  case first =>
    go_wp2
    go_meet
    exact ⟨⟨(H.out.set_ _).alloc _, fun _ _ e => e, fun s b e1 e2 => by simp [e1] at e2, (Ext.setCell (S := fun k => k = bk ∨ k = mm) w (a := ⟨bk, 2, none⟩) (.inl rfl) _).trans (Ext.alloc _ _)⟩, Box5'.new' (by simp [World.setCell]) _ _ _ _ _ _, by simp [World.setCell]⟩
  case rest =>
    obtain ⟨hm, ⟨d0, d1, d2, d3, d4⟩, hs⟩ := hcut
    clear c2 nf
    have c2 := hm.pre.c2
    have HM := Lib.hid hm
    clear hm
    by_cases hdp : 100 < deep
    · go_wp2
      go_ret2
      exact MakePost.bad rfl HM.out (by omega) (by omega)
    · by_cases hl : left - 1 < 0
      · go_wp2
        go_ret2
        exact MakePost.bad rfl HM.out (by omega) (by omega)
      · go_wp2_with fail
        all_goals first
          | (go_ret2; exact MakePost.bad rfl HM.out (by omega) (by omega))
          | skip
        go_loopw [83] (fun i wr => i = .int .i64 0 ∧ wc = wr) (fun _ _ => 0)
        case atStart => exact ⟨rfl, rfl⟩
        case round =>
          obtain ⟨rfl, rfl⟩ := hrel
          go_wp2_with (go_at_call 51; refine (Basic_any _ _ _).mono ?_; rintro e w1 ⟨rfl, rfl⟩)
          go_ret2
          exact MakePost.leaf rfl HM.out ((Below.refl _ _).alloc (Nat.le_refl _) _) (by omega) (by omega) (by omega) (leaf_new rfl (by decide) (by simp [kOf]) (by decide) (by decide) (by decide) ⟨Nat.le_refl _, by simp⟩ (by decide))

set_option maxHeartbeats 1600000 in
set_option maxRecDepth 100000 in
theorem make_any {U : Lib.RTab} {B bk mn mm : Nat} {env : AL Ty} {N : Nat} (n : Int) (s : ByteArray) : MakeAt U B bk mn mm env N (.mk 6 n s [] []) := by
  intro w am left deep cs hN hl6 hl0 hd0 hd1 hwf hsz h hU hT
  obtain ⟨A, co, D, cf, rfl, hbig, hof, hfs⟩ := hT
  have c2 := h.c2
  have nf := h.nf
  have hlt := h.hlt
  have hmt := h.ltm
  have H := Lib.hid h
  clear h hU hof hfs hbig
  go_enter Tryz.func30, Tryz.ntmps30
  go_upto_region 1 with fail
  go_cut [] (fun wx => MStep (fun k => k = bk ∨ k = mm) w wx B bk mn mm env am am (left - 1) ∧ Box5' wx w.heap.size (.int .i64 6) (.int .i64 n) (.string s) (.slice A 0 co) (.slice D 0 cf) ∧ w.heap.size < wx.heap.size)
  case first =>
    go_wp2
    go_meet
    exact ⟨⟨(H.out.set_ _).alloc _, fun _ _ e => e, fun s b e1 e2 => by simp [e1] at e2, (Ext.setCell (S := fun k => k = bk ∨ k = mm) w (a := ⟨bk, 2, none⟩) (.inl rfl) _).trans (Ext.alloc _ _)⟩, Box5'.new' (by simp [World.setCell]) _ _ _ _ _ _, by simp [World.setCell]⟩
  case rest =>
    obtain ⟨hm, ⟨d0, d1, d2, d3, d4⟩, hs⟩ := hcut
    clear c2 nf
    have c2 := hm.pre.c2
    have HM := Lib.hid hm
    clear hm
    by_cases hdp : 100 < deep
    · go_wp2
      go_ret2
      exact MakePost.bad rfl HM.out (by omega) (by omega)
    · by_cases hl : left - 1 < 0
      · go_wp2
        go_ret2
        exact MakePost.bad rfl HM.out (by omega) (by omega)
      · go_wp2_with fail
        all_goals first
          | (go_ret2; exact MakePost.bad rfl HM.out (by omega) (by omega))
          | skip
        go_loopw [83] (fun i wr => i = .int .i64 0 ∧ wc = wr) (fun _ _ => 0)
        case atStart => exact ⟨rfl, rfl⟩
        case round =>
          obtain ⟨rfl, rfl⟩ := hrel
          go_wp2_with (go_at_call 53; refine (AnyType_any _).mono ?_; rintro e w1 ⟨rfl, rfl⟩)
          go_ret2
          exact MakePost.leaf rfl HM.out ((Below.refl _ _).alloc (Nat.le_refl _) _) (by omega) (by omega) (by omega) (leaf_new rfl (by decide) (by simp [kOf]) (by decide) (by decide) (by decide) ⟨Nat.le_refl _, by simp⟩ (by decide))

set_option maxHeartbeats 1600000 in
set_option maxRecDepth 100000 in
theorem make_text {U : Lib.RTab} {B bk mn mm : Nat} {env : AL Ty} {N : Nat} (n : Int) (s : ByteArray) : MakeAt U B bk mn mm env N (.mk 15 n s [] []) := by
  intro w am left deep cs hN hl6 hl0 hd0 hd1 hwf hsz h hU hT
  obtain ⟨A, co, D, cf, rfl, hbig, hof, hfs⟩ := hT
  have c2 := h.c2
  have nf := h.nf
  have hlt := h.hlt
  have hmt := h.ltm
  have H := Lib.hid h
  clear h hU hof hfs hbig
  go_enter Tryz.func30, Tryz.ntmps30
  go_upto_region 1 with fail
  go_cut [] (fun wx => MStep (fun k => k = bk ∨ k = mm) w wx B bk mn mm env am am (left - 1) ∧ Box5' wx w.heap.size (.int .i64 15) (.int .i64 n) (.string s) (.slice A 0 co) (.slice D 0 cf) ∧ w.heap.size < wx.heap.size)
  case first =>
    go_wp2
    go_meet
    exact ⟨⟨(H.out.set_ _).alloc _, fun _ _ e => e, fun s b e1 e2 => by simp [e1] at e2, (Ext.setCell (S := fun k => k = bk ∨ k = mm) w (a := ⟨bk, 2, none⟩) (.inl rfl) _).trans (Ext.alloc _ _)⟩, Box5'.new' (by simp [World.setCell]) _ _ _ _ _ _, by simp [World.setCell]⟩
  case rest =>
    obtain ⟨hm, ⟨d0, d1, d2, d3, d4⟩, hs⟩ := hcut
    clear c2 nf
    have c2 := hm.pre.c2
    have HM := Lib.hid hm
    clear hm
    by_cases hdp : 100 < deep
    · go_wp2
      go_ret2
      exact MakePost.bad rfl HM.out (by omega) (by omega)
    · by_cases hl : left - 1 < 0
      · go_wp2
        go_ret2
        exact MakePost.bad rfl HM.out (by omega) (by omega)
      · go_wp2_with fail
        all_goals first
          | (go_ret2; exact MakePost.bad rfl HM.out (by omega) (by omega))
          | skip
        go_loopw [83] (fun i wr => i = .int .i64 0 ∧ wc = wr) (fun _ _ => 0)
        case atStart => exact ⟨rfl, rfl⟩
        case round =>
          obtain ⟨rfl, rfl⟩ := hrel
          go_wp2_with (go_at_call 56; refine (TextType_any _).mono ?_; rintro e w1 ⟨rfl, rfl⟩)
          go_ret2
          exact MakePost.leaf rfl HM.out ((Below.refl _ _).alloc (Nat.le_refl _) _) (by omega) (by omega) (by omega) (leaf_new rfl (by decide) (by simp [kOf]) (by decide) (by decide) (by decide) ⟨Nat.le_refl _, by simp⟩ (by decide))

set_option maxHeartbeats 1600000 in
set_option maxRecDepth 100000 in
theorem make_name {U : Lib.RTab} {B bk mn mm : Nat} {env : AL Ty} {N : Nat} (n : Int) (s : ByteArray) : MakeAt U B bk mn mm env N (.mk 7 n s [] []) := by
  intro w am left deep cs hN hl6 hl0 hd0 hd1 hwf hsz h hU hT
  obtain ⟨A, co, D, cf, rfl, hbig, hof, hfs⟩ := hT
  have c2 := h.c2
  have nf := h.nf
  have hlt := h.hlt
  have hmt := h.ltm
  have H := Lib.hid h
  clear h hU hof hfs hbig
  go_enter Tryz.func30, Tryz.ntmps30
  go_upto_region 1 with fail
  go_cut [] (fun wx => MStep (fun k => k = bk ∨ k = mm) w wx B bk mn mm env am am (left - 1) ∧ Box5' wx w.heap.size (.int .i64 7) (.int .i64 n) (.string s) (.slice A 0 co) (.slice D 0 cf) ∧ w.heap.size < wx.heap.size)
  case first =>
    go_wp2
    go_meet
    exact ⟨⟨(H.out.set_ _).alloc _, fun _ _ e => e, fun s b e1 e2 => by simp [e1] at e2, (Ext.setCell (S := fun k => k = bk ∨ k = mm) w (a := ⟨bk, 2, none⟩) (.inl rfl) _).trans (Ext.alloc _ _)⟩, Box5'.new' (by simp [World.setCell]) _ _ _ _ _ _, by simp [World.setCell]⟩
  case rest =>
    obtain ⟨hm, ⟨d0, d1, d2, d3, d4⟩, hs⟩ := hcut
    clear c2 nf
    have c2 := hm.pre.c2
    have HM := Lib.hid hm
    clear hm
    by_cases hdp : 100 < deep
    · go_wp2
      go_ret2
      exact MakePost.bad rfl HM.out (by omega) (by omega)
    · by_cases hl : left - 1 < 0
      · go_wp2
        go_ret2
        exact MakePost.bad rfl HM.out (by omega) (by omega)
      · go_wp2_with fail
        all_goals first
          | (go_ret2; exact MakePost.bad rfl HM.out (by omega) (by omega))
          | skip
        go_loopw [83] (fun i wr => i = .int .i64 0 ∧ wc = wr) (fun _ _ => 0)
        case atStart => exact ⟨rfl, rfl⟩
        case round =>
          obtain ⟨rfl, rfl⟩ := hrel
          go_wp2_with (go_at_call 54; refine (nameType_any n s _).mono ?_; rintro e w1 ⟨b, rfl, hrt, hb⟩; have HRT := Lib.hid hrt; have HB := Lib.hid hb; clear hrt hb)
          go_ret2
          exact MakePost.leaf rfl HM.out HB.out (by omega) (by omega) (by omega) HRT.out

set_option maxHeartbeats 1600000 in
set_option maxRecDepth 100000 in
theorem make_attr {U : Lib.RTab} {B bk mn mm : Nat} {env : AL Ty} {N : Nat} (n : Int) (s : ByteArray) : MakeAt U B bk mn mm env N (.mk 8 n s [] []) := by
  intro w am left deep cs hN hl6 hl0 hd0 hd1 hwf hsz h hU hT
  obtain ⟨A, co, D, cf, rfl, hbig, hof, hfs⟩ := hT
  have c2 := h.c2
  have nf := h.nf
  have hlt := h.hlt
  have hmt := h.ltm
  have H := Lib.hid h
  clear h hU hof hfs hbig
  go_enter Tryz.func30, Tryz.ntmps30
  go_upto_region 1 with fail
  go_cut [] (fun wx => MStep (fun k => k = bk ∨ k = mm) w wx B bk mn mm env am am (left - 1) ∧ Box5' wx w.heap.size (.int .i64 8) (.int .i64 n) (.string s) (.slice A 0 co) (.slice D 0 cf) ∧ w.heap.size < wx.heap.size)
  case first =>
    go_wp2
    go_meet
    exact ⟨⟨(H.out.set_ _).alloc _, fun _ _ e => e, fun s b e1 e2 => by simp [e1] at e2, (Ext.setCell (S := fun k => k = bk ∨ k = mm) w (a := ⟨bk, 2, none⟩) (.inl rfl) _).trans (Ext.alloc _ _)⟩, Box5'.new' (by simp [World.setCell]) _ _ _ _ _ _, by simp [World.setCell]⟩
  case rest =>
    obtain ⟨hm, ⟨d0, d1, d2, d3, d4⟩, hs⟩ := hcut
    clear c2 nf
    have c2 := hm.pre.c2
    have HM := Lib.hid hm
    clear hm
    by_cases hdp : 100 < deep
    · go_wp2
      go_ret2
      exact MakePost.bad rfl HM.out (by omega) (by omega)
    · by_cases hl : left - 1 < 0
      · go_wp2
        go_ret2
        exact MakePost.bad rfl HM.out (by omega) (by omega)
      · go_wp2_with fail
        all_goals first
          | (go_ret2; exact MakePost.bad rfl HM.out (by omega) (by omega))
          | skip
        go_loopw [83] (fun i wr => i = .int .i64 0 ∧ wc = wr) (fun _ _ => 0)
        case atStart => exact ⟨rfl, rfl⟩
        case round =>
          obtain ⟨rfl, rfl⟩ := hrel
          go_wp2_with (go_at_call 55; refine (attrType_any n s _).mono ?_; rintro e w1 ⟨b, rfl, hrt, hb⟩; have HRT := Lib.hid hrt; have HB := Lib.hid hb; clear hrt hb)
          go_ret2
          exact MakePost.leaf rfl HM.out HB.out (by omega) (by omega) (by omega) HRT.out

end Go.Proofs.YtnmgocbmofbppaaGreatDoor
