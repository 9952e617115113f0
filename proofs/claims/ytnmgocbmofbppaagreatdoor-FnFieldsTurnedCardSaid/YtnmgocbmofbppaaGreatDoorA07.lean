/- make: slices, arrays, pointers. The searches in strings: zzIndex, zzCut, zzSplit, zzJoin. make: numbers. make: maps. make: pointers. make: named types. make: arrays. -/
import Derived.Test.YtnmgocbmofbppaaGreatDoorA06
import Derived.KernelRfl
import Derived.Outline
import Derived.BigGuardPart
import Derived.Deep.DeepMust
import Derived.Deep.LoopGhost
import Derived.Deep.DeepCutAuto
import Derived.Deep.CutBlock
import Derived.Deep.QuietTactic
import Derived.BigQuiet
import Derived.Lib.Hide
import Derived.WalkSpells
import Derived.Deep.Light
import Derived.Deep.RegionWith
import Derived.WalkLawsBesides
import Derived.StillTailTactics

set_option linter.unusedVariables false
set_option linter.unusedSimpArgs false

namespace Go.Proofs.YtnmgocbmofbppaaGreatDoor
open Go.RowKit

theorem info55 : (Tryz.prog.info? 55).map (fun i => (i.zero, i.size, i.bytes)) = some (some (.pointer none), 1, 8) := by kernel_rfl

/-- make behind its loop over one element. -/
structure MEl (w wr : World) (B bk mn mm : Nat) (env : AL Ty) (am am1 : Am) (left L1 deep : Int) (t : Ty) (y : Nat) : Prop where
  st : MStep (fun k => k = bk ∨ k = mm) w wr B bk mn mm env am am1 L1
  l0 : 0 ≤ L1
  l1 : L1 ≤ left - 1
  rt : RT wr (Fresh w wr am1) am1 t y
  dn : Dones w wr am am1 env

theorem own_cell {w : World} {base g cap : Nat} {u : Value} (h : w.ownsRow base 55 1 (.slice (some ⟨g, 0, none⟩) (0 + 1) cap) (0 + 1) ([] ++ [u])) : w.cell? ⟨g, 0, none⟩ = some u := by
  rcases h.2 with ⟨h0, _⟩ | ⟨g', cap', cur, hv, _, hg, _, _, _, ht⟩
  · cases h0
  · injection hv with e1
    injection e1 with e1
    injection e1 with e1
    subst e1
    simp only [World.cell?, hg]
    have : (cur.toList.take ((0 + 1) * 1))[0]? = some u := by rw [ht]; rfl
    simpa [List.getElem?_take] using this
theorem MEl.slice {w wr : World} {B bk mn mm : Nat} {env : AL Ty} {am am1 : Am} {left L1 deep : Int} {t : Ty} {y : Nat} (h : MEl w wr B bk mn mm env am am1 left L1 deep t y) (h2 : deep ≤ 101) (hb : bk < w.heap.size) (hm : mm < w.heap.size) (n : Int) (s : ByteArray) {e : Ending}
    (he : e = .returned (.tuple #[.pointer (some ⟨wr.heap.size, 0, none⟩), .bool true])) : MakePost w B bk mn mm env am left deep (.mk 9 n s [t] []) e (wr.alloc (tb 14 ⟨#[]⟩ (some ⟨y, 0, none⟩) none 0 none 0 0 0)) := by
  have k := MStep.alloc h.st.pre (fun k => k = bk ∨ k = mm) (tb 14 ⟨#[]⟩ (some ⟨y, 0, none⟩) none 0 none 0 0 0)
  have hS : ∀ i, (i = bk ∨ i = mm) → i < w.heap.size := fun i hi => by omega
  have hl0 := h.l0
  have hl1 := h.l1
  refine ⟨_, true, L1, am1, he, h.st.trans k, by omega, by omega, fun _ => ⟨hl0, ⟨_, rfl, ?_⟩, Dones.step h.st k hS h.dn⟩⟩
  unfold RT
  rw [if_neg (by decide)]
  refine ⟨⟨h.st.ext.size, by simp, fun s e => ?_⟩, info_new _ _ _ _ _ _ _ _ _ _, ⟨#[]⟩, by decide, by decide, some y, none, none, 0, 0, TB.new wr 14 ⟨#[]⟩ (some y) none 0 none 0 0 0, ⟨by simp, by simp, by simp, by simp, by simp⟩, ⟨y, rfl, RT.step h.st k hS h.rt⟩, by simp, trivial⟩
  have := h.st.pre.old s _ e
  omega

set_option maxHeartbeats 1600000 in
set_option maxRecDepth 100000 in
theorem make_slice {U : Lib.RTab} {B bk mn mm : Nat} {env : AL Ty} {N : Nat} (ih : MakeOk U B bk mn mm env N) (n : Int) (s : ByteArray) (t : Ty) : MakeAt U B bk mn mm env (N + 1) (.mk 9 n s [t] []) := by
  intro w am left deep cs hN hl6 hl0 hd0 hd1 hwf hsz h hU hT
  obtain ⟨A, co, D, cf, rfl, hbig, hof, hfs⟩ := hT
  have hwt : t.wf := (wfs_mem [t] 0 t rfl hwf.2.2.2.1)
  have hst : t.sz ≤ 2000 := by simp only [Ty.sz, szs] at hsz; omega
  obtain ⟨b, off, A', ca, D', cb, rfl, ha, hty, hcell⟩ := TysV.at_ (j := 0) hof rfl
  simp only [Nat.zero_mul, Nat.add_zero] at hcell
  have c2 := h.c2
  have nf := h.nf
  have hlt := h.hlt
  have hmt := h.ltm
  have hBk := h.hB
  have hBm := h.hBm
  have H := Lib.hid h
  have IH := Lib.hid ih
  have HU := Lib.hid hU
  have HTY := Lib.hid hty
  have HC := Lib.hid hcell
  clear h ih hU hof hfs hbig hty hcell
  go_enter Tryz.func30, Tryz.ntmps30
  go_upto_region 1 with fail
  go_cut [] (fun wx => MStep (fun k => k = bk ∨ k = mm) w wx B bk mn mm env am am (left - 1) ∧ Box5' wx w.heap.size (.int .i64 9) (.int .i64 n) (.string s) (.slice (some ⟨b, off, none⟩) 1 co) (.slice D 0 cf) ∧ w.heap.size < wx.heap.size)
  case first =>
    go_wp2
    go_meet
    exact ⟨⟨(H.out.set_ _).alloc _, fun _ _ e => e, fun s b e1 e2 => by simp [e1] at e2, (Ext.setCell (S := fun k => k = bk ∨ k = mm) w (a := ⟨bk, 2, none⟩) (.inl rfl) _).trans (Ext.alloc _ _)⟩, Box5'.new' (by simp [World.setCell]) _ _ _ _ _ _, by simp [World.setCell]⟩
  case rest =>
    obtain ⟨hm, ⟨d0, d1, d2, d3, d4⟩, hs⟩ := hcut
    clear c2 nf
    have c2 := hm.pre.c2
    have HM := Lib.hid hm
    clear hm
    by_cases hdp : 100 < deep
    · go_wp2
      go_ret2
      exact MakePost.bad rfl HM.out (by omega) (by omega)
    · by_cases hl : left - 1 < 0
      · go_wp2
        go_ret2
        exact MakePost.bad rfl HM.out (by omega) (by omega)
      · go_wp2_with fail
        all_goals first
          | (go_ret2; exact MakePost.bad rfl HM.out (by omega) (by omega))
          | skip
        go_loopw [83, 11] (fun i l wr => (i = .int .i64 0 ∧ l = .slice none 0 0 ∧ wc = wr) ∨ (i = .int .i64 1 ∧ ∃ (am1 : Am) (L1 : Int) (y g cap : Nat), l = .slice (some ⟨g, 0, none⟩) 1 cap ∧ wr.cell? ⟨g, 0, none⟩ = some (.pointer (some ⟨y, 0, none⟩)) ∧ Box5' wr w.heap.size (.int .i64 9) (.int .i64 n) (.string s) (.slice (some ⟨b, off, none⟩) 1 co) (.slice D 0 cf) ∧ MEl w wr B bk mn mm env am am1 left L1 deep t y)) (fun i _ _ => 1 - (intOf i).toNat)
        case atStart => exact .inl ⟨rfl, rfl, rfl⟩
        case round =>
          rcases hrel with ⟨rfl, rfl, rfl⟩ | ⟨rfl, am1, L1, y, g, cap, rfl, hc, hb5, hme⟩
          · have hblk : ∀ i, i < B → wc.heap[i]? = w.heap[i]? := fun i hi => HM.out.ext.block i (by omega) (by omega)
            have ⟨e0, e1, e2, e3, e4⟩ := HC.out
            rw [← World.cell?_of_block (w' := wc) (hblk b ha)] at e0 e1 e2 e3 e4
            have hbw : b < wc.heap.size := by omega
            have hT1 : ∀ o, TyV (wc.alloc o) (· < B) t _ := fun o => TyV.keep (fun i hi => ⟨hi, (Below.heap_alloc wc o i (by omega)).trans (hblk i hi)⟩) _ _ HTY.out
            have hU1 : ∀ o, Uni U B (wc.alloc o) := fun o => HU.out.keep ((HM.out.ext.trans (Ext.alloc wc o)).below (B := B) (fun i hi => by omega) (by omega))
            have HT1 := Lib.hid hT1
            have HU1 := Lib.hid hU1
            have HB5 : Hid (Box5' wc w.heap.size (.int .i64 9) (.int .i64 n) (.string s) (.slice (some ⟨b, off, none⟩) 1 co) (.slice D 0 cf)) := ⟨d0, d1, d2, d3, d4⟩
            have hbkc := HM.out.pre.hlt
            have hmmc := HM.out.pre.ltm
            obtain ⟨i0, hi, hz0, hz1, hz2⟩ := info_parts info55
            clear hblk hT1 hU1
            go_wp2_with (go_at_call 30; refine (IH.out _ am (left - 1) (deep + 1) t _ (by omega) (by omega) (by omega) (by omega) (by omega) hwt hst (by exact HM.out.pre.alloc _) (by exact HU1.out _) (by exact HT1.out _)).mono ?_; rintro e w2 ⟨p, r, L1, am1, rfl, hm2, hL, hL1, hr⟩; refine Hid.out ?_)
            refine Lib.hid ?_
            have hm3 := HM.out.trans ((MStep.alloc HM.out.pre (fun k => k = bk ∨ k = mm) _).trans hm2)
            have HM3 := Lib.hid hm3
            have HM2 := Lib.hid hm2
            have HR := Lib.hid hr
            clear hm3 hm2 hr d0 d1 d2 d3 d4 e0 e1 e2 e3 e4
            cases r with
            | false =>
              go_wp2
              go_ret2
              exact MakePost.bad rfl HM3.out (by omega) (by omega)
            | true =>
              obtain ⟨hL0, ⟨y, rfl, hy⟩, hd⟩ := HR.out (by trivial)
              have HY := Lib.hid hy
              have HD := Lib.hid hd
              clear hy hd
              go_wp2_with (at_builtin; refine wpList_append_lies _ rfl (.tmp 97) (.tmp 99) 126 rfl w2.heap.size 55 i0 _ 1 8 Tryz.underlying126 hi hz0 hz1 hz2 rfl (by decide) (.slice none 0 0) 0 [] rfl (World.ownsRow_nil _ _ _ _) ⟨w2.heap.size, 0, none⟩ 1 1 [.pointer (some ⟨y, 0, none⟩)] rfl rfl (World.news_of_block (heap_alloc_new w2 _)) (by simp [Value.oneCell']) (by decide) (by decide) (by decide) (by simp) _ rfl ?_; intro g cap w9 hown9 hg9 hat hlt9; refine Hid.out ?_)
              refine Lib.hid ?_
              have hc9 := own_cell hown9
              have hx9 : Ext (fun _ => False) w2 w9 := ⟨hg9.os, hg9.tape, hg9.output, by have := hg9.size; simp at this; omega, fun k hk _ => (hg9.block k (by simp; omega) (fun e => by cases e)).trans (Below.heap_alloc w2 _ k hk)⟩
              have hk9 : MStep (fun k => k = bk ∨ k = mm) w2 w9 B bk mn mm env am1 am1 L1 := ⟨HM2.out.pre.ext hx9 (fun _ e => e.elim), fun _ _ e => e, fun s b e1 e2 => by simp [e1] at e2, hx9.mono fun _ _ e => e.elim⟩
              have hS : ∀ i, (i = bk ∨ i = mm) → i < w.heap.size := fun i hi => by omega
              have hS2 : ∀ i, (i = bk ∨ i = mm) → i < wc.heap.size := fun i hi => by omega
              have hsw := HM.out.ext.size
              have hd2 : Dones w w2 am am1 env := Dones.trans (HM.out.trans (MStep.alloc HM.out.pre (fun k => k = bk ∨ k = mm) _)) HM2.out hS (fun s b e1 e2 => by simp [e1] at e2) HD.out
              have hy2 : RT w2 (Fresh w w2 am1) am1 t y := RT.keep (fun i hi => ⟨⟨by have := hi.1; simp at this; omega, hi.2⟩, rfl⟩) (fun _ _ e => e) _ _ HY.out
              have hme : MEl w w9 B bk mn mm env am am1 left L1 deep t y := ⟨HM3.out.trans hk9, hL0, hL, RT.step HM3.out hk9 hS hy2, Dones.step HM3.out hk9 hS hd2⟩
              have hb9 := HB5.out.keep (((HM2.out.ext.block w.heap.size (by simp; omega) (by omega)).trans (Below.heap_alloc wc _ w.heap.size hs)).symm ▸ (hx9.block w.heap.size (by have := HM2.out.ext.size; simp at this; omega) (fun e => e)))
              have HME := Lib.hid hme
              have HB9 := Lib.hid hb9
              have HC9 := Lib.hid hc9
              clear hc9 hx9 hk9 hd2 hy2 hme hb9 hown9 hg9
              go_wp2_with fail
              go_roundw
              case rel => exact .inr ⟨by go_num, am1, L1, y, g, cap, rfl, HC9.out, HB9.out, HME.out⟩
              case measure => simp [intOf]
          · have ⟨f0, f1, f2, f3, f4⟩ := hb5
            have HME := Lib.hid hme
            have hw1 : w.heap.size ≤ wr.heap.size := hme.st.ext.size
            clear d0 d1 d2 d3 d4 hb5 hme
            go_wp2_with fail
            go_ret2
            exact MEl.slice HME.out (by omega) hlt hmt n s rfl
end Go.Proofs.YtnmgocbmofbppaaGreatDoor
namespace Go.Proofs.YtnmgocbmofbppaaGreatDoor
open Go.RowKit

/-- The first place of a text in another, from i on. -/
def ix (s sep : ByteArray) (i : Nat) : Option Nat :=
  if i + sep.size ≤ s.size then if (s.extract i (i + sep.size)).toList == sep.toList then some i else ix s sep (i + 1) else none
  termination_by s.size + 1 - i
theorem ix_lt (s sep : ByteArray) : ∀ (n i j : Nat), s.size + 1 - i ≤ n → ix s sep i = some j → j + sep.size ≤ s.size
  | 0, i, j, h, e => by
    unfold ix at e
    rw [if_neg (by omega)] at e
    cases e
  | n + 1, i, j, h, e => by
    unfold ix at e
    split at e
    · split at e
      · injection e with e
        omega
      · exact ix_lt s sep n (i + 1) j (by omega) e
    · cases e
def ixI : Option Nat → Int
  | some i => i
  | none => -1
def cutOf (s sep : ByteArray) : Option (ByteArray × ByteArray) := (ix s sep 0).map fun i => (s.extract 0 i, s.extract (i + sep.size) s.size)
def splitN (sep : ByteArray) : Nat → ByteArray → List ByteArray
  | 0, _ => []
  | k + 1, s => match cutOf s sep with
    | some (a, b) => a :: splitN sep k b
    | none => [s]
def splitOf (s sep : ByteArray) : List ByteArray := splitN sep (s.size + 1) s

set_option maxHeartbeats 1600000 in
set_option maxRecDepth 100000 in
theorem zzIndex_any (s sep : ByteArray) (hs : s.size ≤ 1000000) (hp : sep.size ≤ 100) (w : World) :
    Calls Tryz.prog 74 #[.string s, .string sep] w fun e w' => e = .returned (.int .i64 (ixI (ix s sep 0))) ∧ w = w' := by
  obtain ⟨r, hr⟩ : ∃ r, ixI (ix s sep 0) = r := ⟨_, rfl⟩
  rw [hr]
  go_enter Tryz.func74, Tryz.ntmps74
  go_wp2_with fail
  go_loopw [5] (fun i wr => ∃ j : Nat, i = .int .i64 j ∧ w = wr ∧ j ≤ s.size + 1 ∧ ix s sep j = ix s sep 0) (fun i _ => s.size + 1 - (intOf i).toNat)
  case atStart => exact ⟨0, rfl, rfl, by omega, rfl⟩
  case round =>
    obtain ⟨j, rfl, rfl, hj, hix⟩ := hrel
    by_cases hlt : j + sep.size ≤ s.size
    · cases hb : (s.extract j (j + sep.size)).toList == sep.toList with
      | true =>
        have hj0 : ix s sep j = some j := by unfold ix; rw [if_pos hlt, if_pos hb]
        rw [hj0] at hix
        rw [← hix] at hr
        have hr : (j : Int) = r := hr
        subst hr
        go_wp2_with fail
        go_ret
        exact ⟨rfl, rfl⟩
      | false =>
        have hj0 : ix s sep j = ix s sep (j + 1) := by rw [ix, if_pos hlt, if_neg (by rw [hb]; decide)]
        go_wp2_with fail
        go_roundw
        case rel => exact ⟨j + 1, by go_num, trivial, by omega, hj0.symm.trans hix⟩
        case measure => simp [intOf]; omega
    · have hj0 : ix s sep j = none := by unfold ix; rw [if_neg hlt]
      rw [hj0] at hix
      rw [← hix] at hr
      have hr : (-1 : Int) = r := hr
      subst hr
      go_wp2_with fail
      go_ret
      exact ⟨rfl, rfl⟩
def cutV (s : ByteArray) : Option (ByteArray × ByteArray) → Value
  | some (a, b) => .tuple #[.string a, .string b, .bool true]
  | none => .tuple #[.string s, .string ⟨#[]⟩, .bool false]
set_option maxHeartbeats 1600000 in
set_option maxRecDepth 100000 in
theorem zzCut_any (s sep : ByteArray) (hs : s.size ≤ 1000000) (hp : sep.size ≤ 100) (w : World) :
    Calls Tryz.prog 64 #[.string s, .string sep] w fun e w' => e = .returned (cutV s (cutOf s sep)) ∧ Below w.heap.size w w' := by
  cases h : ix s sep 0 with
  | none =>
    have hv : cutV s (cutOf s sep) = .tuple #[.string s, .string ⟨#[]⟩, .bool false] := by unfold cutOf; rw [h]; rfl
    rw [hv]
    clear hv
    go_enter Tryz.func64, Tryz.ntmps64
    go_wp2_with (go_at_call 74; refine (zzIndex_any s sep hs hp w).mono ?_; rw [h]; rintro e w2 ⟨rfl, rfl⟩)
    go_ret3
    exact ⟨rfl, Below.refl _ _⟩
  | some i =>
    have hv : cutV s (cutOf s sep) = .tuple #[.string (s.extract 0 i), .string (s.extract (i + sep.size) s.size), .bool true] := by unfold cutOf; rw [h]; rfl
    have hi := ix_lt s sep _ 0 i (Nat.le_refl _) h
    rw [hv]
    clear hv
    go_enter Tryz.func64, Tryz.ntmps64
    have hk : Calls Tryz.prog 74 #[.string s, .string sep] w fun e w' => e = .returned (.int .i64 (i : Int)) ∧ w = w' := by
      have := zzIndex_any s sep hs hp w
      rw [h] at this
      exact this
    have HK := Lib.hid hk
    clear hk
    go_wp2_with (go_at_call 74; refine HK.out.mono ?_; rintro e w2 ⟨rfl, rfl⟩)
    go_region
    all_goals
      go_wp2_with fail
      go_ret3
      exact ⟨rfl, ⟨rfl, rfl, rfl, Nat.le_refl _, fun _ _ => rfl⟩⟩
theorem ownG_lt {w : World} {base e k n : Nat} {v : Value} {xs : List Value} (h : w.ownsRow base e k v n xs) {g : Nat} (he : v.ownBlock = some g) : base ≤ g ∧ g < w.heap.size := by
  rcases h.2 with ⟨rfl, _⟩ | ⟨g', cap, cur, rfl, hb, hg, _⟩
  · cases he
  · have : g' = g := by simpa [Value.ownBlock] using he
    subst this
    refine ⟨hb, ?_⟩
    rcases Nat.lt_or_ge g' w.heap.size with hlt | hge
    · exact hlt
    · rw [Array.getElem?_eq_none hge] at hg; cases hg
theorem ownG_kept {w w' : World} {base e k n : Nat} {v : Value} {xs : List Value} (h : w.ownsRow base e k v n xs) (hk : ∀ g, v.ownBlock = some g → w'.heap[g]? = w.heap[g]?) : w'.ownsRow base e k v n xs := by
  refine ⟨h.1, ?_⟩
  rcases h.2 with h0 | ⟨g', cap, cur, rfl, hb, hg, r⟩
  · exact Or.inl h0
  · exact Or.inr ⟨g', cap, cur, rfl, hb, (hk g' rfl).trans hg, r⟩
theorem ownG_below {w w' : World} {base e k n : Nat} {v : Value} {xs : List Value} (h : w.ownsRow base e k v n xs) (hb : Below w.heap.size w w') : w'.ownsRow base e k v n xs :=
  ownG_kept h fun g he => hb.block g (ownG_lt h he).2
theorem info9 : (Tryz.prog.info? 9).map (fun i => (i.zero, i.size, i.bytes)) = some (some (.string ⟨#[]⟩), 1, 16) := by kernel_rfl
theorem cut_lt {s sep a b : ByteArray} (h : cutOf s sep = some (a, b)) (hp : 0 < sep.size) : a.size ≤ s.size ∧ b.size < s.size := by
  unfold cutOf at h
  cases hi : ix s sep 0 with
  | none => rw [hi] at h; cases h
  | some i =>
    have := ix_lt s sep _ 0 i (Nat.le_refl _) hi
    rw [hi] at h
    simp at h
    obtain ⟨rfl, rfl⟩ := h
    simp
    omega
/-- The strings of a slice that is the caller's own. -/
def strs (l : List ByteArray) : List Value := l.map .string
set_option maxHeartbeats 1600000 in
set_option maxRecDepth 100000 in
theorem zzSplit_any (s sep : ByteArray) (hs : s.size ≤ 1000000) (hp : sep.size ≤ 100) (hp0 : 0 < sep.size) (w : World) :
    Calls Tryz.prog 65 #[.string s, .string sep] w fun e w' => ∃ v, e = .returned v ∧ w'.ownsRow w.heap.size 9 1 v (splitOf s sep).length (strs (splitOf s sep)) ∧ Below w.heap.size w w' := by
  go_enter Tryz.func65, Tryz.ntmps65
  go_wp2_with fail
  go_loopw [0, 5] (fun s0 s5 wr => ∃ (s' : ByteArray) (xs : List ByteArray) (k : Nat), s0 = .string s' ∧ s'.size < k ∧ s'.size ≤ s.size ∧ xs ++ splitN sep k s' = splitOf s sep ∧ wr.ownsRow w.heap.size 9 1 s5 xs.length (strs xs) ∧ Below w.heap.size w wr ∧ xs.length + s'.size ≤ s.size) (fun s0 _ _ => match s0 with | .string b => b.size | _ => 0)
  case atStart => exact ⟨s, [], s.size + 1, rfl, by omega, by omega, rfl, World.ownsRow_nil _ _ _ _, Below.refl _ _, by simp⟩
  case round =>
    obtain ⟨s', xs, k, rfl, hk, hs', hxs, hown, hbl, hlen⟩ := hrel
    obtain ⟨k, rfl⟩ : ∃ k', k = k' + 1 := ⟨k - 1, by omega⟩
    have hk : Calls Tryz.prog 64 #[.string s', .string sep] wr fun e w' => e = .returned (cutV s' (cutOf s' sep)) ∧ Below wr.heap.size wr w' := zzCut_any s' sep (by omega) hp wr
    have hsz := hbl.size
    obtain ⟨i0, hi, hz0, hz1, hz2⟩ := info_parts info9
    cases h : cutOf s' sep with
    | none =>
      rw [h] at hk
      have hsp : splitN sep (k + 1) s' = [s'] := by simp only [splitN, h]
      rw [hsp] at hxs
      have HK : Hid (Calls Tryz.prog 64 #[.string s', .string sep] wr fun e w' => e = .returned (.tuple #[.string s', .string ⟨#[]⟩, .bool false]) ∧ Below wr.heap.size wr w') := hk
      have HOWN := Lib.hid hown
      have HBL := Lib.hid hbl
      clear hk hown hbl
      go_wp2_with (go_at_call 64; refine HK.out.mono ?_; rintro e w2 ⟨rfl, hb2⟩; refine Hid.out ?_)
      refine Lib.hid ?_
      have hown2 := ownG_below HOWN.out hb2
      have hs2 := hb2.size
      have HOWN2 := Lib.hid hown2
      have HB2 := Lib.hid (HBL.out.trans (hb2.mono hsz))
      clear hown2 hb2
      go_wp2_with (at_builtin; refine wpList_append_lies _ rfl (.tmp 16) (.tmp 18) 34 rfl w.heap.size 9 i0 _ 1 16 Tryz.underlying34 hi hz0 hz1 hz2 rfl (by decide) u5 xs.length (strs xs) rfl (World.ownsRow.alloc HOWN2.out _) ⟨w2.heap.size, 0, none⟩ 1 1 [.string s'] rfl rfl (World.news_of_block (heap_alloc_new w2 _)) (by simp [Value.oneCell']) (by decide) (by unfold maxLen; omega) (by omega) (by simp; omega) _ rfl ?_; intro g cap w9 hown9 hg9 hat hlt9; refine Hid.out ?_)
      refine Lib.hid ?_
      have hb9 : Below w.heap.size w w9 := HB2.out.trans ⟨hg9.os, hg9.tape, hg9.output, by have := hg9.size; simp at this; omega, fun k hk => (hg9.block k (by simp; omega) (fun e => by have := (ownG_lt HOWN2.out e.symm).1; omega)).trans (Below.heap_alloc w2 _ k (by omega))⟩
      have hst : strs xs ++ [.string s'] = strs (xs ++ [s']) := by simp [strs]
      rw [hst] at hown9
      have HO9 := Lib.hid hown9
      have HB9 := Lib.hid hb9
      clear hown9 hg9 hb9 hst
      go_wp2_with fail
      go_ret
      refine ⟨_, rfl, ?_, HB9.out⟩
      rw [← hxs]
      simpa using HO9.out
    | some p =>
      obtain ⟨a, b⟩ := p
      rw [h] at hk
      have hsp : splitN sep (k + 1) s' = a :: splitN sep k b := by simp only [splitN, h]
      rw [hsp] at hxs
      have hab := cut_lt h hp0
      have HK : Hid (Calls Tryz.prog 64 #[.string s', .string sep] wr fun e w' => e = .returned (.tuple #[.string a, .string b, .bool true]) ∧ Below wr.heap.size wr w') := hk
      have HOWN := Lib.hid hown
      have HBL := Lib.hid hbl
      clear hk hown hbl
      go_wp2_with (go_at_call 64; refine HK.out.mono ?_; rintro e w2 ⟨rfl, hb2⟩; refine Hid.out ?_)
      refine Lib.hid ?_
      have hown2 := ownG_below HOWN.out hb2
      have hs2 := hb2.size
      have HOWN2 := Lib.hid hown2
      have HB2 := Lib.hid (HBL.out.trans (hb2.mono hsz))
      clear hown2 hb2
      go_wp2_with (at_builtin; refine wpList_append_lies _ rfl (.tmp 16) (.tmp 18) 34 rfl w.heap.size 9 i0 _ 1 16 Tryz.underlying34 hi hz0 hz1 hz2 rfl (by decide) u5 xs.length (strs xs) rfl (World.ownsRow.alloc HOWN2.out _) ⟨w2.heap.size, 0, none⟩ 1 1 [.string a] rfl rfl (World.news_of_block (heap_alloc_new w2 _)) (by simp [Value.oneCell']) (by decide) (by unfold maxLen; omega) (by omega) (by simp; omega) _ rfl ?_; intro g cap w9 hown9 hg9 hat hlt9; refine Hid.out ?_)
      refine Lib.hid ?_
      have hb9 : Below w.heap.size w w9 := HB2.out.trans ⟨hg9.os, hg9.tape, hg9.output, by have := hg9.size; simp at this; omega, fun k hk => (hg9.block k (by simp; omega) (fun e => by have := (ownG_lt HOWN2.out e.symm).1; omega)).trans (Below.heap_alloc w2 _ k (by omega))⟩
      have hst : strs xs ++ [.string a] = strs (xs ++ [a]) := by simp [strs]
      rw [hst] at hown9
      have HO9 := Lib.hid hown9
      have HB9 := Lib.hid hb9
      clear hown9 hg9 hb9 hst
      go_wp2_with fail
      go_roundw
      case rel => exact ⟨b, xs ++ [a], k, rfl, by omega, by omega, by rw [← hxs]; simp, by simpa using HO9.out, HB9.out, by simp; omega⟩
      case measure => simp; omega
/-- A bound of joined strings. -/
def joinSz : List ByteArray → Nat
  | [] => 0
  | x :: xs => x.size + 100 + joinSz xs
theorem joinSz_take : ∀ (xs : List ByteArray) (j : Nat) (x : ByteArray), xs[j]? = some x → joinSz (xs.take j) + x.size + 100 ≤ joinSz xs
  | [], _, _, h => by simp at h
  | y :: ys, 0, x, h => by
    simp at h
    subst h
    simp [joinSz]
  | y :: ys, j + 1, x, h => by
    have := joinSz_take ys j x (by simpa using h)
    simp only [List.take_succ_cons, joinSz]
    omega
theorem joinSz_snoc : ∀ (xs : List ByteArray) (x : ByteArray), joinSz (xs ++ [x]) = joinSz xs + x.size + 100
  | [], x => by simp [joinSz]
  | y :: ys, x => by simp only [List.cons_append, joinSz, joinSz_snoc ys x]; omega
set_option maxHeartbeats 1600000 in
set_option maxRecDepth 100000 in
theorem zzJoin_any (xs : List ByteArray) (A : Option Addr) (c : Nat) (sep : ByteArray) (hp : sep.size ≤ 100) (hs : joinSz xs ≤ 100000000) (w : World)
    (h : ∀ j x, xs[j]? = some x → ∃ g o, A = some ⟨g, o, none⟩ ∧ w.cell? ⟨g, o + j, none⟩ = some (.string x)) :
    Calls Tryz.prog 68 #[.slice A xs.length c, .string sep] w fun e w' => ∃ s, e = .returned (.string s) ∧ s.size ≤ joinSz xs ∧ w = w' := by
  have hl : xs.length ≤ joinSz xs := by
    clear h hs
    induction xs with
    | nil => simp
    | cons x xs ih => simp only [List.length_cons, joinSz]; omega
  go_enter Tryz.func68, Tryz.ntmps68
  go_wp2_with fail
  go_loopw [10, 5] (fun s10 s5 wr => ∃ (j : Nat) (acc : ByteArray), s10 = .int .i64 j ∧ s5 = .string acc ∧ w = wr ∧ j ≤ xs.length ∧ acc.size ≤ joinSz (xs.take j)) (fun s10 _ _ => xs.length - (intOf s10).toNat)
  case atStart => exact ⟨0, ⟨#[]⟩, rfl, rfl, rfl, by omega, Nat.zero_le _⟩
  case round =>
    obtain ⟨j, acc, rfl, rfl, rfl, hj, hacc⟩ := hrel
    by_cases hlt : j < xs.length
    · obtain ⟨x, hx⟩ : ∃ x, xs[j]? = some x := ⟨_, List.getElem?_eq_getElem hlt⟩
      obtain ⟨g, o, rfl, hc⟩ := h j x hx
      have hb := joinSz_take xs j x hx
      have hb2 : joinSz (xs.take (j + 1)) = joinSz (xs.take j) + x.size + 100 := by rw [List.take_add_one, hx]; exact joinSz_snoc _ _
      have H := Lib.hid h
      clear h
      by_cases h0 : 0 < j
      · go_wp2_with fail
        go_roundw
        case rel => exact ⟨j + 1, _, by go_num, rfl, trivial, by omega, by simp; omega⟩
        case measure => simp [intOf]; omega
      · go_wp2_with fail
        go_roundw
        case rel => exact ⟨j + 1, _, by go_num, rfl, trivial, by omega, by simp; omega⟩
        case measure => simp [intOf]; omega
    · obtain rfl : j = xs.length := by omega
      rw [List.take_length] at hacc
      clear h
      go_wp2_with fail
      go_ret
      exact ⟨acc, rfl, hacc, rfl⟩
end Go.Proofs.YtnmgocbmofbppaaGreatDoor
namespace Go.Proofs.YtnmgocbmofbppaaGreatDoor
open Go.RowKit

set_option maxHeartbeats 1600000 in
set_option maxRecDepth 100000 in
theorem make_int {U : Lib.RTab} {B bk mn mm : Nat} {env : AL Ty} {N : Nat} (n : Int) (s : ByteArray) : MakeAt U B bk mn mm env N (.mk 2 n s [] []) := by
  intro w am left deep cs hN hl6 hl0 hd0 hd1 hwf hsz h hU hT
  obtain ⟨A, co, D, cf, rfl, hbig, hof, hfs⟩ := hT
  have c2 := h.c2
  have nf := h.nf
  have hlt := h.hlt
  have hmt := h.ltm
  have H := Lib.hid h
  clear h hU hof hfs hbig
  go_enter Tryz.func30, Tryz.ntmps30
  go_upto_region 1 with fail
  go_cut [] (fun wx => MStep (fun k => k = bk ∨ k = mm) w wx B bk mn mm env am am (left - 1) ∧ Box5' wx w.heap.size (.int .i64 2) (.int .i64 n) (.string s) (.slice A 0 co) (.slice D 0 cf) ∧ w.heap.size < wx.heap.size)
  case first =>
    go_wp2
    go_meet
    exact ⟨⟨(H.out.set_ _).alloc _, fun _ _ e => e, fun s b e1 e2 => by simp [e1] at e2, (Ext.setCell (S := fun k => k = bk ∨ k = mm) w (a := ⟨bk, 2, none⟩) (.inl rfl) _).trans (Ext.alloc _ _)⟩, Box5'.new' (by simp [World.setCell]) _ _ _ _ _ _, by simp [World.setCell]⟩
  case rest =>
    obtain ⟨hm, ⟨d0, d1, d2, d3, d4⟩, hs⟩ := hcut
    clear c2 nf
    have c2 := hm.pre.c2
    have HM := Lib.hid hm
    clear hm
    by_cases hdp : 100 < deep
    · go_wp2
      go_ret2
      exact MakePost.bad rfl HM.out (by omega) (by omega)
    · by_cases hl : left - 1 < 0
      · go_wp2
        go_ret2
        exact MakePost.bad rfl HM.out (by omega) (by omega)
      · go_wp2_with fail
        all_goals first
          | (go_ret2; exact MakePost.bad rfl HM.out (by omega) (by omega))
          | skip
        go_loopw [83] (fun i wr => i = .int .i64 0 ∧ wc = wr) (fun _ _ => 0)
        case atStart => exact ⟨rfl, rfl⟩
        case round =>
          obtain ⟨rfl, rfl⟩ := hrel
          go_wp2_with (go_at_call 52; refine (show Calls Tryz.prog 52 _ _ _ from number_any false n s _).mono ?_; rintro e w1 (⟨p, rfl, hb⟩ | ⟨b, rfl, hrt, hb⟩) <;> (have HB := Lib.hid hb; clear hb))
          · go_ret2
            exact MakePost.bad rfl (HM.out.trans (MStep.below HM.out.pre _ HB.out)) (by omega) (by omega)
          · go_ret2
            exact MakePost.leaf rfl HM.out HB.out (by omega) (by omega) (by omega) hrt

set_option maxHeartbeats 1600000 in
set_option maxRecDepth 100000 in
theorem make_uint {U : Lib.RTab} {B bk mn mm : Nat} {env : AL Ty} {N : Nat} (n : Int) (s : ByteArray) : MakeAt U B bk mn mm env N (.mk 3 n s [] []) := by
  intro w am left deep cs hN hl6 hl0 hd0 hd1 hwf hsz h hU hT
  obtain ⟨A, co, D, cf, rfl, hbig, hof, hfs⟩ := hT
  have c2 := h.c2
  have nf := h.nf
  have hlt := h.hlt
  have hmt := h.ltm
  have H := Lib.hid h
  clear h hU hof hfs hbig
  go_enter Tryz.func30, Tryz.ntmps30
  go_upto_region 1 with fail
  go_cut [] (fun wx => MStep (fun k => k = bk ∨ k = mm) w wx B bk mn mm env am am (left - 1) ∧ Box5' wx w.heap.size (.int .i64 3) (.int .i64 n) (.string s) (.slice A 0 co) (.slice D 0 cf) ∧ w.heap.size < wx.heap.size)
  case first =>
    go_wp2
    go_meet
    exact ⟨⟨(H.out.set_ _).alloc _, fun _ _ e => e, fun s b e1 e2 => by simp [e1] at e2, (Ext.setCell (S := fun k => k = bk ∨ k = mm) w (a := ⟨bk, 2, none⟩) (.inl rfl) _).trans (Ext.alloc _ _)⟩, Box5'.new' (by simp [World.setCell]) _ _ _ _ _ _, by simp [World.setCell]⟩
  case rest =>
    obtain ⟨hm, ⟨d0, d1, d2, d3, d4⟩, hs⟩ := hcut
    clear c2 nf
    have c2 := hm.pre.c2
    have HM := Lib.hid hm
    clear hm
    by_cases hdp : 100 < deep
    · go_wp2
      go_ret2
      exact MakePost.bad rfl HM.out (by omega) (by omega)
    · by_cases hl : left - 1 < 0
      · go_wp2
        go_ret2
        exact MakePost.bad rfl HM.out (by omega) (by omega)
      · go_wp2_with fail
        all_goals first
          | (go_ret2; exact MakePost.bad rfl HM.out (by omega) (by omega))
          | skip
        go_loopw [83] (fun i wr => i = .int .i64 0 ∧ wc = wr) (fun _ _ => 0)
        case atStart => exact ⟨rfl, rfl⟩
        case round =>
          obtain ⟨rfl, rfl⟩ := hrel
          go_wp2_with (go_at_call 52; refine (show Calls Tryz.prog 52 _ _ _ from number_any true n s _).mono ?_; rintro e w1 (⟨p, rfl, hb⟩ | ⟨b, rfl, hrt, hb⟩) <;> (have HB := Lib.hid hb; clear hb))
          · go_ret2
            exact MakePost.bad rfl (HM.out.trans (MStep.below HM.out.pre _ HB.out)) (by omega) (by omega)
          · go_ret2
            exact MakePost.leaf rfl HM.out HB.out (by omega) (by omega) (by omega) hrt

set_option maxHeartbeats 1600000 in
set_option maxRecDepth 100000 in
theorem make_float {U : Lib.RTab} {B bk mn mm : Nat} {env : AL Ty} {N : Nat} (n : Int) (s : ByteArray) : MakeAt U B bk mn mm env N (.mk 4 n s [] []) := by
  intro w am left deep cs hN hl6 hl0 hd0 hd1 hwf hsz h hU hT
  obtain ⟨A, co, D, cf, rfl, hbig, hof, hfs⟩ := hT
  have c2 := h.c2
  have nf := h.nf
  have hlt := h.hlt
  have hmt := h.ltm
  have H := Lib.hid h
  clear h hU hof hfs hbig
  go_enter Tryz.func30, Tryz.ntmps30
  go_upto_region 1 with fail
  go_cut [] (fun wx => MStep (fun k => k = bk ∨ k = mm) w wx B bk mn mm env am am (left - 1) ∧ Box5' wx w.heap.size (.int .i64 4) (.int .i64 n) (.string s) (.slice A 0 co) (.slice D 0 cf) ∧ w.heap.size < wx.heap.size)
  case first =>
    go_wp2
    go_meet
    exact ⟨⟨(H.out.set_ _).alloc _, fun _ _ e => e, fun s b e1 e2 => by simp [e1] at e2, (Ext.setCell (S := fun k => k = bk ∨ k = mm) w (a := ⟨bk, 2, none⟩) (.inl rfl) _).trans (Ext.alloc _ _)⟩, Box5'.new' (by simp [World.setCell]) _ _ _ _ _ _, by simp [World.setCell]⟩
  case rest =>
    obtain ⟨hm, ⟨d0, d1, d2, d3, d4⟩, hs⟩ := hcut
    clear c2 nf
    have c2 := hm.pre.c2
    have HM := Lib.hid hm
    clear hm
    by_cases hdp : 100 < deep
    · go_wp2
      go_ret2
      exact MakePost.bad rfl HM.out (by omega) (by omega)
    · by_cases hl : left - 1 < 0
      · go_wp2
        go_ret2
        exact MakePost.bad rfl HM.out (by omega) (by omega)
      · go_wp2_with fail
        all_goals first
          | (go_ret2; exact MakePost.bad rfl HM.out (by omega) (by omega))
          | skip
        go_loopw [83] (fun i wr => i = .int .i64 0 ∧ wc = wr) (fun _ _ => 0)
        case atStart => exact ⟨rfl, rfl⟩
        case round =>
          obtain ⟨rfl, rfl⟩ := hrel
          have hlf : ∀ (m : Int) (K : Int) (nm : ByteArray), n = m → kOf 4 n = K → nm.size ≠ 0 → nm.size ≤ 100 → RT (wc.alloc (tb K nm none none 0 none 0 0 0)) (fun k => wc.heap.size ≤ k ∧ k < (wc.alloc (tb K nm none none 0 none 0 0 0)).heap.size) (fun _ => none) (.mk 4 n s [] []) wc.heap.size := fun m K nm hm hK h1 h2 =>
            leaf_new rfl (by decide) hK (by decide) ⟨fun e => absurd e h1, fun e => by omega⟩ h2 ⟨Nat.le_refl _, by simp⟩ (by decide)
          by_cases h32 : n = 32
          · subst h32
            go_wp2_with (go_at_call 51; refine (Basic_any _ _ _).mono ?_; rintro e w1 ⟨rfl, rfl⟩)
            go_ret2
            exact MakePost.leaf rfl HM.out ((Below.refl _ _).alloc (Nat.le_refl _) _) (by omega) (by omega) (by omega) (hlf 32 10 _ rfl (by decide) (by decide) (by decide))
          · by_cases h64 : n = 64
            · subst h64
              go_wp2_with (go_at_call 51; refine (Basic_any _ _ _).mono ?_; rintro e w1 ⟨rfl, rfl⟩)
              go_ret2
              exact MakePost.leaf rfl HM.out ((Below.refl _ _).alloc (Nat.le_refl _) _) (by omega) (by omega) (by omega) (hlf 64 11 _ rfl (by decide) (by decide) (by decide))
            · go_wp2
              go_ret2
              exact MakePost.bad rfl HM.out (by omega) (by omega)

end Go.Proofs.YtnmgocbmofbppaaGreatDoor
namespace Go.Proofs.YtnmgocbmofbppaaGreatDoor
open Go.RowKit

set_option maxHeartbeats 1600000 in
set_option maxRecDepth 100000 in
theorem make_map {U : Lib.RTab} {B bk mn mm : Nat} {env : AL Ty} {N : Nat} (n : Int) (s : ByteArray) : MakeAt U B bk mn mm env N (.mk 11 n s [] []) := by
  intro w am left deep cs hN hl6 hl0 hd0 hd1 hwf hsz h hU hT
  obtain ⟨A, co, D, cf, rfl, hbig, hof, hfs⟩ := hT
  have c2 := h.c2
  have nf := h.nf
  have hlt := h.hlt
  have hmt := h.ltm
  have H := Lib.hid h
  clear h hU hof hfs hbig
  go_enter Tryz.func30, Tryz.ntmps30
  go_upto_region 1 with fail
  go_cut [] (fun wx => MStep (fun k => k = bk ∨ k = mm) w wx B bk mn mm env am am (left - 1) ∧ Box5' wx w.heap.size (.int .i64 11) (.int .i64 n) (.string s) (.slice A 0 co) (.slice D 0 cf) ∧ w.heap.size < wx.heap.size)
  case first =>
    go_wp2
    go_meet
    exact ⟨⟨(H.out.set_ _).alloc _, fun _ _ e => e, fun s b e1 e2 => by simp [e1] at e2, (Ext.setCell (S := fun k => k = bk ∨ k = mm) w (a := ⟨bk, 2, none⟩) (.inl rfl) _).trans (Ext.alloc _ _)⟩, Box5'.new' (by simp [World.setCell]) _ _ _ _ _ _, by simp [World.setCell]⟩
  case rest =>
    obtain ⟨hm, ⟨d0, d1, d2, d3, d4⟩, hs⟩ := hcut
    clear c2 nf
    have c2 := hm.pre.c2
    have HM := Lib.hid hm
    clear hm
    by_cases hdp : 100 < deep
    · go_wp2
      go_ret2
      exact MakePost.bad rfl HM.out (by omega) (by omega)
    · by_cases hl : left - 1 < 0
      · go_wp2
        go_ret2
        exact MakePost.bad rfl HM.out (by omega) (by omega)
      · go_wp2_with fail
        all_goals first
          | (go_ret2; exact MakePost.bad rfl HM.out (by omega) (by omega))
          | skip
        go_loopw [83] (fun i wr => i = .int .i64 0 ∧ wc = wr) (fun _ _ => 0)
        case atStart => exact ⟨rfl, rfl⟩
        case round =>
          obtain ⟨rfl, rfl⟩ := hrel
          go_wp2_with (go_at_call 51; refine (Basic_any _ _ _).mono ?_; rintro e w1 ⟨rfl, rfl⟩)
          go_ret2
          refine MakePost.leaf rfl HM.out ((((Below.refl _ _).alloc (Nat.le_refl _) _).alloc (by simp) _).alloc (by simp; omega) _) (by omega) (by omega) (by omega) ?_
          unfold RT
          rw [if_neg (by decide)]
          refine ⟨⟨by omega, by simp⟩, ⟨by simp [go_sem], by simp [go_sem]⟩, ⟨#[]⟩, by decide, by decide, some (wc.heap.size + 1), some wc.heap.size, none, 0, 0, ⟨?_, ?_, ?_, ?_, ?_, ?_, ?_⟩, ⟨fun _ => ⟨_, _, rfl, rfl, ?_, ?_⟩, by simp, by simp, by simp, by simp⟩, trivial, by simp, trivial⟩
          all_goals try (simp [go_sem, kOf, markOf]; done)
          · refine ⟨⟨by omega, by simp⟩, ⟨#[115, 116, 114, 105, 110, 103]⟩, by decide, by decide, ⟨?_, ?_, ?_, ?_, ?_, ?_, ?_⟩, ?_⟩
            all_goals simp [go_sem]
          · refine ⟨⟨by omega, by simp; omega⟩, ⟨#[115, 116, 114, 105, 110, 103]⟩, by decide, by decide, ⟨?_, ?_, ?_, ?_, ?_, ?_, ?_⟩, ?_⟩
            all_goals simp [go_sem]

end Go.Proofs.YtnmgocbmofbppaaGreatDoor
namespace Go.Proofs.YtnmgocbmofbppaaGreatDoor
open Go.RowKit

theorem MEl.pointer {w wr : World} {B bk mn mm : Nat} {env : AL Ty} {am am1 : Am} {left L1 deep : Int} {t : Ty} {y : Nat} (h : MEl w wr B bk mn mm env am am1 left L1 deep t y) (h2 : deep ≤ 101) (hb : bk < w.heap.size) (hm : mm < w.heap.size) (n : Int) (s : ByteArray) {e : Ending}
    (he : e = .returned (.tuple #[.pointer (some ⟨wr.heap.size, 0, none⟩), .bool true])) : MakePost w B bk mn mm env am left deep (.mk 12 n s [t] []) e (wr.alloc (tb 17 ⟨#[]⟩ (some ⟨y, 0, none⟩) none 0 none 0 0 0)) := by
  have k := MStep.alloc h.st.pre (fun k => k = bk ∨ k = mm) (tb 17 ⟨#[]⟩ (some ⟨y, 0, none⟩) none 0 none 0 0 0)
  have hS : ∀ i, (i = bk ∨ i = mm) → i < w.heap.size := fun i hi => by omega
  have hl0 := h.l0
  have hl1 := h.l1
  refine ⟨_, true, L1, am1, he, h.st.trans k, by omega, by omega, fun _ => ⟨hl0, ⟨_, rfl, ?_⟩, Dones.step h.st k hS h.dn⟩⟩
  unfold RT
  rw [if_neg (by decide)]
  refine ⟨⟨h.st.ext.size, by simp, fun s e => ?_⟩, info_new _ _ _ _ _ _ _ _ _ _, ⟨#[]⟩, by decide, by decide, some y, none, none, 0, 0, TB.new wr 17 ⟨#[]⟩ (some y) none 0 none 0 0 0, ⟨by simp, by simp, by simp, by simp, by simp⟩, ⟨y, rfl, RT.step h.st k hS h.rt⟩, by simp, trivial⟩
  have := h.st.pre.old s _ e
  omega

set_option maxHeartbeats 1600000 in
set_option maxRecDepth 100000 in
theorem make_pointer {U : Lib.RTab} {B bk mn mm : Nat} {env : AL Ty} {N : Nat} (ih : MakeOk U B bk mn mm env N) (n : Int) (s : ByteArray) (t : Ty) : MakeAt U B bk mn mm env (N + 1) (.mk 12 n s [t] []) := by
  intro w am left deep cs hN hl6 hl0 hd0 hd1 hwf hsz h hU hT
  obtain ⟨A, co, D, cf, rfl, hbig, hof, hfs⟩ := hT
  have hwt : t.wf := (wfs_mem [t] 0 t rfl hwf.2.2.2.1)
  have hst : t.sz ≤ 2000 := by simp only [Ty.sz, szs] at hsz; omega
  obtain ⟨b, off, A', ca, D', cb, rfl, ha, hty, hcell⟩ := TysV.at_ (j := 0) hof rfl
  simp only [Nat.zero_mul, Nat.add_zero] at hcell
  have c2 := h.c2
  have nf := h.nf
  have hlt := h.hlt
  have hmt := h.ltm
  have hBk := h.hB
  have hBm := h.hBm
  have H := Lib.hid h
  have IH := Lib.hid ih
  have HU := Lib.hid hU
  have HTY := Lib.hid hty
  have HC := Lib.hid hcell
  clear h ih hU hof hfs hbig hty hcell
  go_enter Tryz.func30, Tryz.ntmps30
  go_upto_region 1 with fail
  go_cut [] (fun wx => MStep (fun k => k = bk ∨ k = mm) w wx B bk mn mm env am am (left - 1) ∧ Box5' wx w.heap.size (.int .i64 12) (.int .i64 n) (.string s) (.slice (some ⟨b, off, none⟩) 1 co) (.slice D 0 cf) ∧ w.heap.size < wx.heap.size)
  case first =>
    go_wp2
    go_meet
    exact ⟨⟨(H.out.set_ _).alloc _, fun _ _ e => e, fun s b e1 e2 => by simp [e1] at e2, (Ext.setCell (S := fun k => k = bk ∨ k = mm) w (a := ⟨bk, 2, none⟩) (.inl rfl) _).trans (Ext.alloc _ _)⟩, Box5'.new' (by simp [World.setCell]) _ _ _ _ _ _, by simp [World.setCell]⟩
  case rest =>
    obtain ⟨hm, ⟨d0, d1, d2, d3, d4⟩, hs⟩ := hcut
    clear c2 nf
    have c2 := hm.pre.c2
    have HM := Lib.hid hm
    clear hm
    by_cases hdp : 100 < deep
    · go_wp2
      go_ret2
      exact MakePost.bad rfl HM.out (by omega) (by omega)
    · by_cases hl : left - 1 < 0
      · go_wp2
        go_ret2
        exact MakePost.bad rfl HM.out (by omega) (by omega)
      · go_wp2_with fail
        all_goals first
          | (go_ret2; exact MakePost.bad rfl HM.out (by omega) (by omega))
          | skip
        go_loopw [83, 11] (fun i l wr => (i = .int .i64 0 ∧ l = .slice none 0 0 ∧ wc = wr) ∨ (i = .int .i64 1 ∧ ∃ (am1 : Am) (L1 : Int) (y g cap : Nat), l = .slice (some ⟨g, 0, none⟩) 1 cap ∧ wr.cell? ⟨g, 0, none⟩ = some (.pointer (some ⟨y, 0, none⟩)) ∧ Box5' wr w.heap.size (.int .i64 12) (.int .i64 n) (.string s) (.slice (some ⟨b, off, none⟩) 1 co) (.slice D 0 cf) ∧ MEl w wr B bk mn mm env am am1 left L1 deep t y)) (fun i _ _ => 1 - (intOf i).toNat)
        case atStart => exact .inl ⟨rfl, rfl, rfl⟩
        case round =>
          rcases hrel with ⟨rfl, rfl, rfl⟩ | ⟨rfl, am1, L1, y, g, cap, rfl, hc, hb5, hme⟩
          · have hblk : ∀ i, i < B → wc.heap[i]? = w.heap[i]? := fun i hi => HM.out.ext.block i (by omega) (by omega)
            have ⟨e0, e1, e2, e3, e4⟩ := HC.out
            rw [← World.cell?_of_block (w' := wc) (hblk b ha)] at e0 e1 e2 e3 e4
            have hbw : b < wc.heap.size := by omega
            have hT1 : ∀ o, TyV (wc.alloc o) (· < B) t _ := fun o => TyV.keep (fun i hi => ⟨hi, (Below.heap_alloc wc o i (by omega)).trans (hblk i hi)⟩) _ _ HTY.out
            have hU1 : ∀ o, Uni U B (wc.alloc o) := fun o => HU.out.keep ((HM.out.ext.trans (Ext.alloc wc o)).below (B := B) (fun i hi => by omega) (by omega))
            have HT1 := Lib.hid hT1
            have HU1 := Lib.hid hU1
            have HB5 : Hid (Box5' wc w.heap.size (.int .i64 12) (.int .i64 n) (.string s) (.slice (some ⟨b, off, none⟩) 1 co) (.slice D 0 cf)) := ⟨d0, d1, d2, d3, d4⟩
            have hbkc := HM.out.pre.hlt
            have hmmc := HM.out.pre.ltm
            obtain ⟨i0, hi, hz0, hz1, hz2⟩ := info_parts info55
            clear hblk hT1 hU1
            go_wp2_with (go_at_call 30; refine (IH.out _ am (left - 1) (deep + 1) t _ (by omega) (by omega) (by omega) (by omega) (by omega) hwt hst (by exact HM.out.pre.alloc _) (by exact HU1.out _) (by exact HT1.out _)).mono ?_; rintro e w2 ⟨p, r, L1, am1, rfl, hm2, hL, hL1, hr⟩; refine Hid.out ?_)
            refine Lib.hid ?_
            have hm3 := HM.out.trans ((MStep.alloc HM.out.pre (fun k => k = bk ∨ k = mm) _).trans hm2)
            have HM3 := Lib.hid hm3
            have HM2 := Lib.hid hm2
            have HR := Lib.hid hr
            clear hm3 hm2 hr d0 d1 d2 d3 d4 e0 e1 e2 e3 e4
            cases r with
            | false =>
              go_wp2
              go_ret2
              exact MakePost.bad rfl HM3.out (by omega) (by omega)
            | true =>
              obtain ⟨hL0, ⟨y, rfl, hy⟩, hd⟩ := HR.out (by trivial)
              have HY := Lib.hid hy
              have HD := Lib.hid hd
              clear hy hd
              go_wp2_with (at_builtin; refine wpList_append_lies _ rfl (.tmp 97) (.tmp 99) 126 rfl w2.heap.size 55 i0 _ 1 8 Tryz.underlying126 hi hz0 hz1 hz2 rfl (by decide) (.slice none 0 0) 0 [] rfl (World.ownsRow_nil _ _ _ _) ⟨w2.heap.size, 0, none⟩ 1 1 [.pointer (some ⟨y, 0, none⟩)] rfl rfl (World.news_of_block (heap_alloc_new w2 _)) (by simp [Value.oneCell']) (by decide) (by decide) (by decide) (by simp) _ rfl ?_; intro g cap w9 hown9 hg9 hat hlt9; refine Hid.out ?_)
              refine Lib.hid ?_
              have hc9 := own_cell hown9
              have hx9 : Ext (fun _ => False) w2 w9 := ⟨hg9.os, hg9.tape, hg9.output, by have := hg9.size; simp at this; omega, fun k hk _ => (hg9.block k (by simp; omega) (fun e => by cases e)).trans (Below.heap_alloc w2 _ k hk)⟩
              have hk9 : MStep (fun k => k = bk ∨ k = mm) w2 w9 B bk mn mm env am1 am1 L1 := ⟨HM2.out.pre.ext hx9 (fun _ e => e.elim), fun _ _ e => e, fun s b e1 e2 => by simp [e1] at e2, hx9.mono fun _ _ e => e.elim⟩
              have hS : ∀ i, (i = bk ∨ i = mm) → i < w.heap.size := fun i hi => by omega
              have hS2 : ∀ i, (i = bk ∨ i = mm) → i < wc.heap.size := fun i hi => by omega
              have hsw := HM.out.ext.size
              have hd2 : Dones w w2 am am1 env := Dones.trans (HM.out.trans (MStep.alloc HM.out.pre (fun k => k = bk ∨ k = mm) _)) HM2.out hS (fun s b e1 e2 => by simp [e1] at e2) HD.out
              have hy2 : RT w2 (Fresh w w2 am1) am1 t y := RT.keep (fun i hi => ⟨⟨by have := hi.1; simp at this; omega, hi.2⟩, rfl⟩) (fun _ _ e => e) _ _ HY.out
              have hme : MEl w w9 B bk mn mm env am am1 left L1 deep t y := ⟨HM3.out.trans hk9, hL0, hL, RT.step HM3.out hk9 hS hy2, Dones.step HM3.out hk9 hS hd2⟩
              have hb9 := HB5.out.keep (((HM2.out.ext.block w.heap.size (by simp; omega) (by omega)).trans (Below.heap_alloc wc _ w.heap.size hs)).symm ▸ (hx9.block w.heap.size (by have := HM2.out.ext.size; simp at this; omega) (fun e => e)))
              have HME := Lib.hid hme
              have HB9 := Lib.hid hb9
              have HC9 := Lib.hid hc9
              clear hc9 hx9 hk9 hd2 hy2 hme hb9 hown9 hg9
              go_wp2_with fail
              go_roundw
              case rel => exact .inr ⟨by go_num, am1, L1, y, g, cap, rfl, HC9.out, HB9.out, HME.out⟩
              case measure => simp [intOf]
          · have ⟨f0, f1, f2, f3, f4⟩ := hb5
            have HME := Lib.hid hme
            have hw1 : w.heap.size ≤ wr.heap.size := hme.st.ext.size
            clear d0 d1 d2 d3 d4 hb5 hme
            go_wp2_with (go_at_call 57; refine (PointerTo_any _ _).mono ?_; rintro e w1 ⟨rfl, rfl⟩)
            go_ret2
            exact MEl.pointer HME.out (by omega) hlt hmt n s rfl
end Go.Proofs.YtnmgocbmofbppaaGreatDoor
namespace Go.Proofs.YtnmgocbmofbppaaGreatDoor
open Go.RowKit

set_option maxHeartbeats 1600000 in
set_option maxRecDepth 100000 in
theorem make_named {U : Lib.RTab} {B bk mn mm : Nat} {env : AL Ty} {N : Nat} (hE : EnvOk env) (ih : MakeOk U B bk mn mm env N) (n : Int) (s : ByteArray) : MakeAt U B bk mn mm env (N + 1) (.mk 14 n s [] []) := by
  intro w am left deep cs hN hl6 hl0 hd0 hd1 hwf hsz h hU hT
  obtain ⟨A, co, D, cf, rfl, hbig, hof, hfs⟩ := hT
  have c2 := h.c2
  have nf := h.nf
  have hlt := h.hlt
  have hmt := h.ltm
  have hBk := h.hB
  have hBm := h.hBm
  have H := Lib.hid h
  have IH := Lib.hid ih
  have HU := Lib.hid hU
  clear h ih hU hof hfs hbig
  go_enter Tryz.func30, Tryz.ntmps30
  go_upto_region 1 with fail
  go_cut [] (fun wx => MStep (fun k => k = bk ∨ k = mm) w wx B bk mn mm env am am (left - 1) ∧ Box5' wx w.heap.size (.int .i64 14) (.int .i64 n) (.string s) (.slice A 0 co) (.slice D 0 cf) ∧ w.heap.size < wx.heap.size)
  case first =>
    go_wp2
    go_meet
    exact ⟨⟨(H.out.set_ _).alloc _, fun _ _ e => e, fun s b e1 e2 => by simp [e1] at e2, (Ext.setCell (S := fun k => k = bk ∨ k = mm) w (a := ⟨bk, 2, none⟩) (.inl rfl) _).trans (Ext.alloc _ _)⟩, Box5'.new' (by simp [World.setCell]) _ _ _ _ _ _, by simp [World.setCell]⟩
  case rest =>
    obtain ⟨hm, ⟨d0, d1, d2, d3, d4⟩, hs⟩ := hcut
    clear c2 nf
    have c2 := hm.pre.c2
    have HM := Lib.hid hm
    clear hm
    by_cases hdp : 100 < deep
    · go_wp2
      go_ret2
      exact MakePost.bad rfl HM.out (by omega) (by omega)
    · by_cases hl : left - 1 < 0
      · go_wp2
        go_ret2
        exact MakePost.bad rfl HM.out (by omega) (by omega)
      · go_wp2_with fail
        all_goals first
          | (go_ret2; exact MakePost.bad rfl HM.out (by omega) (by omega))
          | skip
        go_loopw [83] (fun i wr => i = .int .i64 0 ∧ wc = wr) (fun _ _ => 0)
        case atStart => exact ⟨rfl, rfl⟩
        case round =>
          obtain ⟨rfl, rfl⟩ := hrel
          have hU2 := HU.out.keep (HM.out.ext.below (B := B) (fun i hi => by omega) (by omega))
          have HU2 := Lib.hid hU2
          clear hU2
          go_wp2_with (go_at_call 59; refine (byName_any hE IH.out _ am (left - 1) deep n s [] [] (by omega) (by omega) (by omega) hd0 (by omega) HM.out.pre HU2.out).mono ?_; rintro e w2 ⟨p, ok, L, am', rfl, hm2, hL, hL1, hr⟩; have HM2 := Lib.hid hm2; have HR := Lib.hid hr; clear hm2 hr)
          go_ret2
          have hS : ∀ i, (i = bk ∨ i = mm) → i < w.heap.size := fun i hi => by omega
          refine ⟨p, ok, L, am', rfl, HM.out.trans HM2.out, by omega, hL1, fun hok => ?_⟩
          obtain ⟨h0, ⟨y, hp, hy⟩, hd⟩ := HR.out hok
          exact ⟨h0, ⟨y, hp, RT.keep (fun i hi => ⟨hi.late HM.out.ext.size, rfl⟩) (fun _ _ e => e) _ _ hy⟩, Dones.trans HM.out HM2.out hS (fun s b e1 e2 => by simp [e1] at e2) hd⟩

end Go.Proofs.YtnmgocbmofbppaaGreatDoor
namespace Go.Proofs.YtnmgocbmofbppaaGreatDoor
open Go.RowKit

theorem MakePost.drew {w W : World} {B bk mn mm : Nat} {env : AL Ty} {am : Am} {left deep : Int} {T : Ty} {e : Ending} (h : MakePost w B bk mn mm env am left deep T e W) : MakePost w B bk mn mm env am left deep T e W.drew := by
  obtain ⟨p, ok, L, am', he, hm, h1, h2, hr⟩ := h
  refine ⟨p, ok, L, am', he, ⟨hm.pre.of_heap rfl, hm.sub, hm.new, hm.ext.drewN 1⟩, h1, h2, fun hk => ?_⟩
  obtain ⟨h0, ⟨b, hp, hb⟩, hd⟩ := hr hk
  exact ⟨h0, ⟨b, hp, RT.keep (w := W) (w' := W.drew) (ok := Fresh w W am') (am := am') (fun i hi => ⟨hi, rfl⟩) (fun _ _ e => e) _ _ hb⟩, fun s c e1 e2 => Done.mono (w1 := W) (w2 := W.drew) (ok := Fresh w W am') (am1 := am') (fun i hi => ⟨hi, rfl⟩) (fun _ _ e => e) rfl (hd s c e1 e2)⟩
theorem MEl.array {w wr : World} {B bk mn mm : Nat} {env : AL Ty} {am am1 : Am} {left L1 deep : Int} {t : Ty} {y : Nat} (h : MEl w wr B bk mn mm env am am1 left L1 deep t y) (h2 : deep ≤ 101) (hb : bk < w.heap.size) (hm : mm < w.heap.size) (n : Int) (s : ByteArray) {e : Ending}
    (he : e = .returned (.tuple #[.pointer (some ⟨wr.heap.size, 0, none⟩), .bool true])) : MakePost w B bk mn mm env am left deep (.mk 10 n s [t] []) e (wr.alloc (tb 15 ⟨#[]⟩ (some ⟨y, 0, none⟩) none n none 0 0 0)) := by
  have k := MStep.alloc h.st.pre (fun k => k = bk ∨ k = mm) (tb 15 ⟨#[]⟩ (some ⟨y, 0, none⟩) none n none 0 0 0)
  have hS : ∀ i, (i = bk ∨ i = mm) → i < w.heap.size := fun i hi => by omega
  have hl0 := h.l0
  have hl1 := h.l1
  refine ⟨_, true, L1, am1, he, h.st.trans k, by omega, by omega, fun _ => ⟨hl0, ⟨_, rfl, ?_⟩, Dones.step h.st k hS h.dn⟩⟩
  unfold RT
  rw [if_neg (by decide)]
  refine ⟨⟨h.st.ext.size, by simp, fun s e => ?_⟩, info_new _ _ _ _ _ _ _ _ _ _, ⟨#[]⟩, by decide, by decide, some y, none, none, 0, 0, TB.new wr 15 ⟨#[]⟩ (some y) none n none 0 0 0, ⟨by simp, by simp, by simp, by simp, by simp⟩, ⟨y, rfl, RT.step h.st k hS h.rt⟩, by simp, trivial⟩
  have := h.st.pre.old s _ e
  omega

set_option maxHeartbeats 1600000 in
set_option maxRecDepth 100000 in
theorem make_array {U : Lib.RTab} {B bk mn mm : Nat} {env : AL Ty} {N : Nat} (ih : MakeOk U B bk mn mm env N) (n : Int) (s : ByteArray) (t : Ty) : MakeAt U B bk mn mm env (N + 1) (.mk 10 n s [t] []) := by
  intro w am left deep cs hN hl6 hl0 hd0 hd1 hwf hsz h hU hT
  obtain ⟨A, co, D, cf, rfl, hbig, hof, hfs⟩ := hT
  have hwt : t.wf := (wfs_mem [t] 0 t rfl hwf.2.2.2.1)
  have hst : t.sz ≤ 2000 := by simp only [Ty.sz, szs] at hsz; omega
  obtain ⟨b, off, A', ca, D', cb, rfl, ha, hty, hcell⟩ := TysV.at_ (j := 0) hof rfl
  simp only [Nat.zero_mul, Nat.add_zero] at hcell
  have c2 := h.c2
  have nf := h.nf
  have hlt := h.hlt
  have hmt := h.ltm
  have hBk := h.hB
  have hBm := h.hBm
  have H := Lib.hid h
  have IH := Lib.hid ih
  have HU := Lib.hid hU
  have HTY := Lib.hid hty
  have HC := Lib.hid hcell
  clear h ih hU hof hfs hbig hty hcell
  go_enter Tryz.func30, Tryz.ntmps30
  go_upto_region 1 with fail
  go_cut [] (fun wx => MStep (fun k => k = bk ∨ k = mm) w wx B bk mn mm env am am (left - 1) ∧ Box5' wx w.heap.size (.int .i64 10) (.int .i64 n) (.string s) (.slice (some ⟨b, off, none⟩) 1 co) (.slice D 0 cf) ∧ w.heap.size < wx.heap.size)
  case first =>
    go_wp2
    go_meet
    exact ⟨⟨(H.out.set_ _).alloc _, fun _ _ e => e, fun s b e1 e2 => by simp [e1] at e2, (Ext.setCell (S := fun k => k = bk ∨ k = mm) w (a := ⟨bk, 2, none⟩) (.inl rfl) _).trans (Ext.alloc _ _)⟩, Box5'.new' (by simp [World.setCell]) _ _ _ _ _ _, by simp [World.setCell]⟩
  case rest =>
    obtain ⟨hm, ⟨d0, d1, d2, d3, d4⟩, hs⟩ := hcut
    clear c2 nf
    have c2 := hm.pre.c2
    have HM := Lib.hid hm
    clear hm
    by_cases hdp : 100 < deep
    · go_wp2
      go_ret2
      exact MakePost.bad rfl HM.out (by omega) (by omega)
    · by_cases hl : left - 1 < 0
      · go_wp2
        go_ret2
        exact MakePost.bad rfl HM.out (by omega) (by omega)
      · go_wp2_with fail
        all_goals first
          | (go_ret2; exact MakePost.bad rfl HM.out (by omega) (by omega))
          | skip
        go_loopw [83, 11] (fun i l wr => (i = .int .i64 0 ∧ l = .slice none 0 0 ∧ wc = wr) ∨ (i = .int .i64 1 ∧ ∃ (am1 : Am) (L1 : Int) (y g cap : Nat), l = .slice (some ⟨g, 0, none⟩) 1 cap ∧ wr.cell? ⟨g, 0, none⟩ = some (.pointer (some ⟨y, 0, none⟩)) ∧ Box5' wr w.heap.size (.int .i64 10) (.int .i64 n) (.string s) (.slice (some ⟨b, off, none⟩) 1 co) (.slice D 0 cf) ∧ MEl w wr B bk mn mm env am am1 left L1 deep t y)) (fun i _ _ => 1 - (intOf i).toNat)
        case atStart => exact .inl ⟨rfl, rfl, rfl⟩
        case round =>
          rcases hrel with ⟨rfl, rfl, rfl⟩ | ⟨rfl, am1, L1, y, g, cap, rfl, hc, hb5, hme⟩
          · have hblk : ∀ i, i < B → wc.heap[i]? = w.heap[i]? := fun i hi => HM.out.ext.block i (by omega) (by omega)
            have ⟨e0, e1, e2, e3, e4⟩ := HC.out
            rw [← World.cell?_of_block (w' := wc) (hblk b ha)] at e0 e1 e2 e3 e4
            have hbw : b < wc.heap.size := by omega
            have hT1 : ∀ o, TyV (wc.alloc o) (· < B) t _ := fun o => TyV.keep (fun i hi => ⟨hi, (Below.heap_alloc wc o i (by omega)).trans (hblk i hi)⟩) _ _ HTY.out
            have hU1 : ∀ o, Uni U B (wc.alloc o) := fun o => HU.out.keep ((HM.out.ext.trans (Ext.alloc wc o)).below (B := B) (fun i hi => by omega) (by omega))
            have HT1 := Lib.hid hT1
            have HU1 := Lib.hid hU1
            have HB5 : Hid (Box5' wc w.heap.size (.int .i64 10) (.int .i64 n) (.string s) (.slice (some ⟨b, off, none⟩) 1 co) (.slice D 0 cf)) := ⟨d0, d1, d2, d3, d4⟩
            have hbkc := HM.out.pre.hlt
            have hmmc := HM.out.pre.ltm
            obtain ⟨i0, hi, hz0, hz1, hz2⟩ := info_parts info55
            clear hblk hT1 hU1
            go_wp2_with (go_at_call 30; refine (IH.out _ am (left - 1) (deep + 1) t _ (by omega) (by omega) (by omega) (by omega) (by omega) hwt hst (by exact HM.out.pre.alloc _) (by exact HU1.out _) (by exact HT1.out _)).mono ?_; rintro e w2 ⟨p, r, L1, am1, rfl, hm2, hL, hL1, hr⟩; refine Hid.out ?_)
            refine Lib.hid ?_
            have hm3 := HM.out.trans ((MStep.alloc HM.out.pre (fun k => k = bk ∨ k = mm) _).trans hm2)
            have HM3 := Lib.hid hm3
            have HM2 := Lib.hid hm2
            have HR := Lib.hid hr
            clear hm3 hm2 hr d0 d1 d2 d3 d4 e0 e1 e2 e3 e4
            cases r with
            | false =>
              go_wp2
              go_ret2
              exact MakePost.bad rfl HM3.out (by omega) (by omega)
            | true =>
              obtain ⟨hL0, ⟨y, rfl, hy⟩, hd⟩ := HR.out (by trivial)
              have HY := Lib.hid hy
              have HD := Lib.hid hd
              clear hy hd
              go_wp2_with (at_builtin; refine wpList_append_lies _ rfl (.tmp 97) (.tmp 99) 126 rfl w2.heap.size 55 i0 _ 1 8 Tryz.underlying126 hi hz0 hz1 hz2 rfl (by decide) (.slice none 0 0) 0 [] rfl (World.ownsRow_nil _ _ _ _) ⟨w2.heap.size, 0, none⟩ 1 1 [.pointer (some ⟨y, 0, none⟩)] rfl rfl (World.news_of_block (heap_alloc_new w2 _)) (by simp [Value.oneCell']) (by decide) (by decide) (by decide) (by simp) _ rfl ?_; intro g cap w9 hown9 hg9 hat hlt9; refine Hid.out ?_)
              refine Lib.hid ?_
              have hc9 := own_cell hown9
              have hx9 : Ext (fun _ => False) w2 w9 := ⟨hg9.os, hg9.tape, hg9.output, by have := hg9.size; simp at this; omega, fun k hk _ => (hg9.block k (by simp; omega) (fun e => by cases e)).trans (Below.heap_alloc w2 _ k hk)⟩
              have hk9 : MStep (fun k => k = bk ∨ k = mm) w2 w9 B bk mn mm env am1 am1 L1 := ⟨HM2.out.pre.ext hx9 (fun _ e => e.elim), fun _ _ e => e, fun s b e1 e2 => by simp [e1] at e2, hx9.mono fun _ _ e => e.elim⟩
              have hS : ∀ i, (i = bk ∨ i = mm) → i < w.heap.size := fun i hi => by omega
              have hS2 : ∀ i, (i = bk ∨ i = mm) → i < wc.heap.size := fun i hi => by omega
              have hsw := HM.out.ext.size
              have hd2 : Dones w w2 am am1 env := Dones.trans (HM.out.trans (MStep.alloc HM.out.pre (fun k => k = bk ∨ k = mm) _)) HM2.out hS (fun s b e1 e2 => by simp [e1] at e2) HD.out
              have hy2 : RT w2 (Fresh w w2 am1) am1 t y := RT.keep (fun i hi => ⟨⟨by have := hi.1; simp at this; omega, hi.2⟩, rfl⟩) (fun _ _ e => e) _ _ HY.out
              have hme : MEl w w9 B bk mn mm env am am1 left L1 deep t y := ⟨HM3.out.trans hk9, hL0, hL, RT.step HM3.out hk9 hS hy2, Dones.step HM3.out hk9 hS hd2⟩
              have hb9 := HB5.out.keep (((HM2.out.ext.block w.heap.size (by simp; omega) (by omega)).trans (Below.heap_alloc wc _ w.heap.size hs)).symm ▸ (hx9.block w.heap.size (by have := HM2.out.ext.size; simp at this; omega) (fun e => e)))
              have HME := Lib.hid hme
              have HB9 := Lib.hid hb9
              have HC9 := Lib.hid hc9
              clear hc9 hx9 hk9 hd2 hy2 hme hb9 hown9 hg9
              go_wp2_with fail
              go_roundw
              case rel => exact .inr ⟨by go_num, am1, L1, y, g, cap, rfl, HC9.out, HB9.out, HME.out⟩
              case measure => simp [intOf]
          · have ⟨f0, f1, f2, f3, f4⟩ := hb5
            have HME := Lib.hid hme
            have hw1 : w.heap.size < wr.heap.size := World.block_lt_of_cell? wr _ hb5.2.1
            clear d0 d1 d2 d3 d4 hb5 hme
            by_cases hn0 : 0 ≤ n
            · by_cases hn1 : n ≤ 100000
              · go_upto_region 55 with fail
                go_region
                go_wp2_with fail
                go_ret2
                exact (MEl.array HME.out (by omega) hlt hmt n s rfl).drew
              · go_upto_region 55 with fail
                go_region
                go_wp2_with fail
                go_ret2
                exact (MakePost.bad rfl (HME.out.st.trans (MStep.alloc HME.out.st.pre (fun k => k = bk ∨ k = mm) _)) (by have := HME.out.l1; omega) (by have := HME.out.l0; omega)).drew
            · go_upto_region 55 with fail
              go_region
              go_wp2_with fail
              go_ret2
              exact (MakePost.bad rfl (HME.out.st.trans (MStep.alloc HME.out.st.pre (fun k => k = bk ∨ k = mm) _)) (by have := HME.out.l1; omega) (by have := HME.out.l0; omega)).drew
end Go.Proofs.YtnmgocbmofbppaaGreatDoor
