/- addFieldInfo. -/
import Derived.Test.YtnmgocbmofbppaaGreatDoorA30
import Derived.Deep.RegionHeld3
import Derived.Deep.RegionHeldLaw
import Derived.WalkMore
import Derived.KernelRfl
import Derived.Outline
import Derived.BigGuardPart
import Derived.Deep.DeepMust
import Derived.Deep.LoopGhost
import Derived.Deep.DeepCutAuto
import Derived.Deep.CutBlock
import Derived.Deep.QuietTactic
import Derived.BigQuiet
import Derived.Lib.Hide
import Derived.WalkSpells
import Derived.Deep.Light
import Derived.Deep.RegionWith
import Derived.WalkLawsBesides
import Derived.StillTailTactics

set_option linter.unusedVariables false
set_option linter.unusedSimpArgs false

namespace Go.Proofs.YtnmgocbmofbppaaGreatDoor
open Go.RowKit

set_option maxHeartbeats 64000000 in
set_option maxRecDepth 100000 in
theorem add_any {n0 B : Nat} {am : Am} {l : AL Ty} {tg : ByteArray → ByteArray} (hTg : TagC tg B) (fs : List Fl) (typ ti nf base : Nat) (L : List Fx) (new : Fx) (v : Value) (vss : List (List Value)) (w : World) (hT : TiV w base ti L v vss) (hL : L.length ≤ 1000000) (hg : GNm n0 w am l) (hs : NdSz l) (hF : Fds n0 w am l fs typ) (hTb : Tabs B w) (hB : B ≤ w.heap.size) (hBase : base ≤ w.heap.size) (hpL : ∀ x ∈ L, PathOk l fs x.idx) (hpN : PathOk l fs new.idx) (hnt : nf ≠ ti) (hno : v.ownBlock ≠ some nf)
    (ib ic : Nat) (A : Option Addr) (pc : Nat) (hN : FxQ w (fun b => b ≠ ti ∧ v.ownBlock ≠ some b) [.slice (some ⟨ib, 0, none⟩) new.idx.length ic, .string new.fi.name, .string new.fi.xmlns, .int .i64 new.fi.flags, .slice A new.fi.parents.length pc] new)
    (n0' : w.cell? ⟨nf, 0, none⟩ = some (.slice (some ⟨ib, 0, none⟩) new.idx.length ic)) (n1' : w.cell? ⟨nf, 1, none⟩ = some (.string new.fi.name)) (n2' : w.cell? ⟨nf, 2, none⟩ = some (.string new.fi.xmlns)) (n3' : w.cell? ⟨nf, 3, none⟩ = some (.int .i64 new.fi.flags)) (n4' : w.cell? ⟨nf, 4, none⟩ = some (.slice A new.fi.parents.length pc)) :
    Calls Tryz.prog 45 #[.pointer (some ⟨typ, 0, none⟩), .pointer (some ⟨ti, 0, none⟩), .pointer (some ⟨nf, 0, none⟩)] w (AddPost w base typ ti L v new) := by
  have hloop := fun SA SC hv Q0 => loop45 hTg fs typ ti nf base L new v vss w hT hL hg hs hF hTb hB hBase hpL hpN hnt hno ib ic A pc hN n0' n1' n2' n3' n4' SA SC hv Q0
  have HLOOP := Lib.hid hloop
  clear hloop
  have HTI := Lib.hid hT
  have HN := Lib.hid hN
  have HTG := Lib.hid hTg
  have HG := Lib.hid hg
  have HS := Lib.hid hs
  have HF := Lib.hid hF
  have HTB := Lib.hid hTb
  have HPL := Lib.hid hpL
  have HPN := Lib.hid hpN
  have HNT := Lib.hid hnt
  have HNOW := Lib.hid hno
  clear hTg hg hs hF hTb hpL hpN hnt hno
  have hti : ti < w.heap.size := lt_cell hT.c1
  have hnf : nf < w.heap.size := lt_cell n0'
  obtain ⟨SA, SC, hv⟩ : ∃ SA SC, v = .slice SA L.length SC := by
    rcases hT.own.2 with ⟨hv, hn⟩ | ⟨g, cap, cur, hv, _⟩
    · exact ⟨none, 0, by rw [hv, hn]⟩
    · exact ⟨_, _, hv⟩
  have hc1 := hT.c1
  rw [hv] at hc1
  clear hT hN
  go_enter Tryz.func45, Tryz.ntmps45
  go_wp2_with fail
  go_step3
  go_wp2_with fail
  go_step3
  go_wp2_with fail
  refine HLOOP.out SA SC hv _ ?_
  intro u7 u8 u9 u10 u11 u28 u29 u30 u31 u32 u33 u34 u35 u36 u37 u38 u39 u40 u41 u42 u43 u44 u45 u46 u47 u48 u49 u50 u51 u52 u53 u54 u55 u56 u57 u58 u59 u60 u61 u62 u63 u64 u65 u66 u67 u68 u69 u70 u71 u72 u73 u74 u75 u76 u77 u78 u79 u80 u81 u82 u83 u84 u85 u86 u87 u88 u89 u90 u91 u92 u93 u94 u95 u96 u97 u98 u99 u100 u101 u102 u103 u104 u105 u106 u107 u108 u109 u110 u111 u112 u113 u114 u115 u116 u117 u118 u119 u120 u121 u122 u123 u124 u125 u126 u127 u128 u129 u130 u131 u132 u133 u134 u135 u136 u137 u138 u139 u140 u141 u142 u143 u144 u145 u146 u147 u148 u149 u150 u151 u152 u153 u154 u155 u156 u157 u158 u159 u160 u161 u162 u163 u164 u165 u166 u167 u168 u169 u170 u171 u172 u173 u174 u175 u176 u177 u178 u179 u180 u181 u182 u183 u184 u185 u186 V hb hown hnil
  have HNIL := Lib.hid hnil
  clear hnil HLOOP
  subst hv
  have hcl : (cfl L new.fi L.length).length ≤ 1000000 := Nat.le_trans (cfl_len _ _ _) hL
  have hnl := HNIL.out
  have hTV := HTI.out.below hb
  have hNV : FxQ V (fun b => b ≠ ti ∧ (Value.slice SA L.length SC).ownBlock ≠ some b) _ new := HN.out.keep fun b hl ho => ⟨ho, hb.block b hl⟩
  have hkc : ∀ (a : Addr) (u : Value), w.cell? a = some u → V.cell? a = some u := fun a u e => (World.cell?_of_block (hb.block a.block (lt_cell e))).trans e
  have c1' := hkc _ _ hc1
  have m0' := hkc _ _ n0'
  have m1' := hkc _ _ n1'
  have m2' := hkc _ _ n2'
  have m3' := hkc _ _ n3'
  have m4' := hkc _ _ n4'
  have hs7 := hb.size
  have HB := Lib.hid hb
  have HTV := Lib.hid hTV
  have HNV := Lib.hid hNV
  have hfar : (Value.slice SA L.length SC).ownBlock ≠ some ti := HTI.out.far
  have HFAR := Lib.hid hfar
  have HNIL2 := Lib.hid hnl
  clear hb hTV hNV hkc hfar hnl HNIL
  obtain ⟨CS, hCS⟩ : ∃ CS, cfl L new.fi L.length = CS := ⟨_, rfl⟩
  rw [hCS] at hown hcl HNIL2
  have HCS := Lib.hid hCS
  clear hCS
  have hq35 : ∀ (W : World) (a : Option Addr) (n c n' c' : Nat), (binOp .eql 35 (.slice a n c) (.slice none n' c')).run Tryz.prog W = .ok (.bool a.isNone) W := fun W a n c n' c' => Lib.run_eql_slice_nil W _ _ a n c n' c' Tryz.underlying35
  by_cases hcn : CS = []
  · have hs7 := HNIL2.out hcn
    have hap : addFx L new = some (L ++ [new]) := addFx_nil (by rw [HCS.out]; exact hcn)
    subst hs7
    have HAP := Lib.hid hap
    clear hap hown hcn HNIL2
    have hown := HTV.out.own
    have HOWN := Lib.hid hown
    have hnfr := HTV.out.nf
    clear hown
    obtain ⟨i0, hi, hz0, hz1, hz2⟩ := info_parts info85
    go_upto_region 23 with fail
    have htV : ti < V.heap.size := by omega
    have hnV : nf < V.heap.size := by omega
    have ha : ∀ o (a : Addr) (u : Value), V.cell? a = some u → (V.alloc o).drew.cell? a = some u := fun o a u e => (World.cell?_of_block (Below.heap_alloc V o a.block (lt_cell e))).trans e
    have hb0 := fun o => ha o _ _ m0'
    have hb1 := fun o => ha o _ _ m1'
    have hb2 := fun o => ha o _ _ m2'
    have hb3 := fun o => ha o _ _ m3'
    have hb4 := fun o => ha o _ _ m4'
    clear ha
    have hne := HNT.out
    go_outline
    refine wp_region_held_drew (S := (fun w' => w'.cell? ⟨nf, 0, none⟩ = some (.slice (some ⟨ib, 0, none⟩) new.idx.length ic) ∧ w'.cell? ⟨nf, 1, none⟩ = some (.string new.fi.name) ∧ w'.cell? ⟨nf, 2, none⟩ = some (.string new.fi.xmlns) ∧ w'.cell? ⟨nf, 3, none⟩ = some (.int .i64 new.fi.flags) ∧ w'.cell? ⟨nf, 4, none⟩ = some (.slice A new.fi.parents.length pc))) (by kernel_rfl) ?_ (fun hHeldq => ?_)
    · (try dsimp only); exact ⟨m0', m1', m2', m3', m4'⟩
    refine wpAnyH_take (i := 0) (oi := _) (v := ?_) rfl (by kernel_rfl) (by kernel_rfl) (by kernel_rfl) (fun _ _ _ h => h) (Or.inl ⟨by rfl, ?_⟩) (by assumption) ?_
    rotate_left
    · (intro wq hSwq; (try dsimp only at hSwq); go_simp; (try with_reducible rfl))
    try simp only [Act.put, List.getElem_toArray, List.getElem_cons_zero, List.getElem_cons_succ, List.setIfInBounds_toArray, List.set_cons_zero, List.set_cons_succ]
    refine wpAnyH_take (i := 1) (oi := _) (v := ?_) rfl (by kernel_rfl) (by kernel_rfl) (by kernel_rfl) (fun _ _ _ h => h) (Or.inl ⟨by rfl, ?_⟩) (by assumption) ?_
    rotate_left
    · (intro wq hSwq; (try dsimp only at hSwq); go_simp; (try with_reducible rfl))
    try simp only [Act.put, List.getElem_toArray, List.getElem_cons_zero, List.getElem_cons_succ, List.setIfInBounds_toArray, List.set_cons_zero, List.set_cons_succ]
    refine wpAnyH_take (i := 2) (oi := _) (v := ?_) rfl (by kernel_rfl) (by kernel_rfl) (by kernel_rfl) (fun _ _ _ h => h) (Or.inl ⟨by rfl, ?_⟩) (by assumption) ?_
    rotate_left
    · (intro wq hSwq; (try dsimp only at hSwq); go_simp; (try with_reducible rfl))
    try simp only [Act.put, List.getElem_toArray, List.getElem_cons_zero, List.getElem_cons_succ, List.setIfInBounds_toArray, List.set_cons_zero, List.set_cons_succ]
    refine wpAnyH_take (i := 3) (oi := _) (v := ?_) rfl (by kernel_rfl) (by kernel_rfl) (by kernel_rfl) (fun _ _ _ h => h) (Or.inl ⟨by rfl, ?_⟩) (by assumption) ?_
    rotate_left
    · (intro wq hSwq; (try dsimp only at hSwq); go_simp; (try with_reducible rfl))
    try simp only [Act.put, List.getElem_toArray, List.getElem_cons_zero, List.getElem_cons_succ, List.setIfInBounds_toArray, List.set_cons_zero, List.set_cons_succ]
    refine wpAnyH_take (i := 5) (oi := _) (v := ?_) rfl (by kernel_rfl) (by kernel_rfl) (by kernel_rfl) (fun _ _ _ h => h) (Or.inl ⟨by rfl, ?_⟩) (by assumption) ?_
    rotate_left
    · (intro wq hSwq; (try dsimp only at hSwq); go_simp; (try with_reducible rfl))
    try simp only [Act.put, List.getElem_toArray, List.getElem_cons_zero, List.getElem_cons_succ, List.setIfInBounds_toArray, List.set_cons_zero, List.set_cons_succ]
    refine wpAnyH_take (i := 6) (oi := _) (v := ?_) rfl (by kernel_rfl) (by kernel_rfl) (by kernel_rfl) (fun _ _ _ h => h) (Or.inl ⟨by rfl, ?_⟩) (by assumption) ?_
    rotate_left
    · (intro wq hSwq; (try dsimp only at hSwq); go_simp; (try with_reducible rfl))
    try simp only [Act.put, List.getElem_toArray, List.getElem_cons_zero, List.getElem_cons_succ, List.setIfInBounds_toArray, List.set_cons_zero, List.set_cons_succ]
    refine wpAnyH_take (i := 7) (oi := _) (v := ?_) rfl (by kernel_rfl) (by kernel_rfl) (by kernel_rfl) (fun _ _ _ h => h) (Or.inl ⟨by rfl, ?_⟩) (by assumption) ?_
    rotate_left
    · (intro wq hSwq; (try dsimp only at hSwq); go_simp; (try with_reducible rfl))
    try simp only [Act.put, List.getElem_toArray, List.getElem_cons_zero, List.getElem_cons_succ, List.setIfInBounds_toArray, List.set_cons_zero, List.set_cons_succ]
    refine wpAnyH_ready (rs := [4, 8]) (by kernel_rfl) (by simp) ?_
    refine AllReadyH.cons rfl (fun Kq hKq => ?_) (AllReadyH.cons rfl (fun Kq hKq => ?_) AllReadyH.nil)
    go_simp
    refine hKq.out _ _ ?_ (fun hHeld2 => ?_)
    · (try dsimp only); exact ⟨m0', m1', m2', m3', m4'⟩
    clear hKq Kq hHeldq
    have hHeldq := hHeld2
    clear hHeld2
    try simp only [Act.put, List.getElem_toArray, List.getElem_cons_zero, List.getElem_cons_succ, List.setIfInBounds_toArray, List.set_cons_zero, List.set_cons_succ]
    refine wpAnyH_ready (rs := [8]) (by kernel_rfl) (by simp) ?_
    refine AllReadyH.cons rfl (fun Kq hKq => ?_) AllReadyH.nil
    go_simp
    refine hKq.out _ _ ?_ (fun hHeld2 => ?_)
    · (try dsimp only); exact ⟨hb0 _, hb1 _, hb2 _, hb3 _, hb4 _⟩
    clear hKq Kq hHeldq
    have hHeldq := hHeld2
    clear hHeld2
    try simp only [Act.put, List.getElem_toArray, List.getElem_cons_zero, List.getElem_cons_succ, List.setIfInBounds_toArray, List.set_cons_zero, List.set_cons_succ]
    rotate_left
    go_simp
    refine hKq.out _ _ ?_ (fun hHeld2 => ?_)
    · (try dsimp only); exact ⟨hb0 _, hb1 _, hb2 _, hb3 _, hb4 _⟩
    clear hKq Kq hHeldq
    have hHeldq := hHeld2
    clear hHeld2
    try simp only [Act.put, List.getElem_toArray, List.getElem_cons_zero, List.getElem_cons_succ, List.setIfInBounds_toArray, List.set_cons_zero, List.set_cons_succ]
    refine wpAnyH_ready (rs := [4]) (by kernel_rfl) (by simp) ?_
    refine AllReadyH.cons rfl (fun Kq hKq => ?_) AllReadyH.nil
    go_simp
    refine hKq.out _ _ ?_ (fun hHeld2 => ?_)
    · (try dsimp only); exact ⟨hb0 _, hb1 _, hb2 _, hb3 _, hb4 _⟩
    clear hKq Kq hHeldq
    have hHeldq := hHeld2
    clear hHeld2
    try simp only [Act.put, List.getElem_toArray, List.getElem_cons_zero, List.getElem_cons_succ, List.setIfInBounds_toArray, List.set_cons_zero, List.set_cons_succ]
    all_goals
      refine wpAnyH_ready (rs := [9]) (by kernel_rfl) (by simp) ?_
      refine AllReadyH.cons rfl (fun Kq hKq => ?_) AllReadyH.nil
      (refine step_append_lies _ rfl (.tmp 193) (.tmp 197) 80 rfl base 85 i0 _ 5 88 Tryz.underlying80 hi hz0 hz1 hz2 rfl (by decide) (.slice SA L.length SC) L.length (flat vss) (by simp [Act.eval, Act.put]) (World.ownsRow.alloc HOWN.out _) ⟨V.heap.size, 0, none⟩ 1 1 [.slice (some ⟨ib, 0, none⟩) new.idx.length ic, .string new.fi.name, .string new.fi.xmlns, .int .i64 new.fi.flags, .slice A new.fi.parents.length pc] (by simp [Act.eval, Act.put]) rfl (World.news_of_block (heap_alloc_new V.drew _)) (by simp [Value.oneCell']) (by decide) (by unfold maxLen; omega) (by omega) (by simp; omega) _ rfl ?_; intro g cap w9 hown9 hg9 hat hlt9; have hx9 : w9.heap[nf]? = V.drew.heap[nf]? := (hg9.block nf (by simp; omega) (fun e => HNOW.out e.symm)).trans (Below.heap_alloc V.drew _ nf (by simp; omega)); have k0 := (World.cell?_of_block hx9).trans m0'; have k1 := (World.cell?_of_block hx9).trans m1'; have k2 := (World.cell?_of_block hx9).trans m2'; have k3 := (World.cell?_of_block hx9).trans m3'; have k4 := (World.cell?_of_block hx9).trans m4'; have hx9' : w9.heap[ti]? = V.drew.heap[ti]? := (hg9.block ti (by simp; omega) (fun e => HFAR.out e.symm)).trans (Below.heap_alloc V.drew _ ti (by simp; omega)); have q5' := (World.cell?_of_block hx9').trans c1'; have qf' := (World.frozen?_of_block hx9').trans hnfr; have HO9 := Lib.hid hown9; have HG9 := Lib.hid hg9; have HAT := Lib.hid hat; clear hown9 hg9 hat hx9 hx9')
      refine hKq.out _ _ ?_ (fun hHeld2 => ?_)
      · (try dsimp only); exact ⟨k0, k1, k2, k3, k4⟩
      clear hKq Kq hHeldq
      have hHeldq := hHeld2
      clear hHeld2
      try simp only [Act.put, List.getElem_toArray, List.getElem_cons_zero, List.getElem_cons_succ, List.setIfInBounds_toArray, List.set_cons_zero, List.set_cons_succ]
      refine wpAnyH_take (i := 10) (oi := _) (v := ?_) rfl (by kernel_rfl) (by kernel_rfl) (by kernel_rfl) (fun _ _ _ h => h) (Or.inl ⟨by rfl, ?_⟩) (by assumption) ?_
      rotate_left
      · (intro wq hSwq; (try dsimp only at hSwq); go_simp; (try with_reducible rfl))
      try simp only [Act.put, List.getElem_toArray, List.getElem_cons_zero, List.getElem_cons_succ, List.setIfInBounds_toArray, List.set_cons_zero, List.set_cons_succ]
      refine wpAnyH_take (i := 11) (oi := _) (v := ?_) rfl (by kernel_rfl) (by kernel_rfl) (by kernel_rfl) (fun _ _ _ h => h) (Or.inl ⟨by rfl, ?_⟩) (by assumption) ?_
      rotate_left
      · (intro wq hSwq; (try dsimp only at hSwq); go_simp; (try with_reducible rfl))
      try simp only [Act.put, List.getElem_toArray, List.getElem_cons_zero, List.getElem_cons_succ, List.setIfInBounds_toArray, List.set_cons_zero, List.set_cons_succ]
      refine wpAnyH_ready (rs := [12]) (by kernel_rfl) (by simp) ?_
      refine AllReadyH.cons rfl (fun Kq hKq => ?_) AllReadyH.nil
      go_simp
      refine hKq.out _ _ ?_ (fun hHeld2 => ?_)
      · (try dsimp only); exact ⟨(World.cell?_setCell_far _ _ _ _ (by simp; omega)).trans k0, (World.cell?_setCell_far _ _ _ _ (by simp; omega)).trans k1, (World.cell?_setCell_far _ _ _ _ (by simp; omega)).trans k2, (World.cell?_setCell_far _ _ _ _ (by simp; omega)).trans k3, (World.cell?_setCell_far _ _ _ _ (by simp; omega)).trans k4⟩
      clear hKq Kq hHeldq
      have hHeldq := hHeld2
      clear hHeld2
      try simp only [Act.put, List.getElem_toArray, List.getElem_cons_zero, List.getElem_cons_succ, List.setIfInBounds_toArray, List.set_cons_zero, List.set_cons_succ]
      refine wpAnyH_done (by kernel_rfl) ?_ _
    all_goals
      go_wp2_with fail
      rw [Exit.noGoto_ret]
      go_ret
      exact AddPost.pushed ((Ext.of_below HB.out).mono (S := fun _ => False) fun _ _ e => e.elim) (World.cell?_of_block (HB.out.block ti hti)) (World.frozen?_of_block (HB.out.block ti hti)) HTV.out rfl hti HFAR.out HNV.out HAP.out HO9.out HG9.out HAT.out hlt9
  · obtain ⟨cg, cc, hu7, hccl⟩ : ∃ cg cc, u7 = .slice (some ⟨cg, 0, none⟩) CS.length cc ∧ ∀ (k i : Nat), CS[k]? = some i → V.cell? ⟨cg, k, none⟩ = some (.int .i64 i) := by
      rcases hown.2 with ⟨_, hn⟩ | ⟨cg, cc, cur, h1, h2, h3, h4, h5, h6, h7⟩
      · exact absurd (List.eq_nil_of_length_eq_zero hn) hcn
      · refine ⟨cg, cc, h1, fun k i e => ?_⟩
        have hk : (intsOf CS)[k]? = some (.int .i64 i) := by unfold intsOf; rw [List.getElem?_map, e]; rfl
        rw [← h7, List.getElem?_take] at hk
        split at hk
        · simp only [World.cell?, h3]
          simpa using hk
        · cases hk
    subst hu7
    have hmem : ∀ k i, CS[k]? = some i → i ∈ cfl L new.fi L.length := fun k i e => by rw [HCS.out]; exact List.mem_of_getElem? e
    have HMEM := Lib.hid hmem
    have HCCL := Lib.hid hccl
    have hcg : cg < V.heap.size := by
      have := hown.lt cg rfl
      exact this.2
    have hcg0 : w.heap.size ≤ cg := by
      have := hown.lt cg rfl
      exact this.1
    clear hmem hccl hown HNIL2
    have hCS0 : CS ≠ [] := hcn
    have HCN := Lib.hid hCS0
    have hL0 : 0 < L.length := by
      obtain ⟨i, hi⟩ : ∃ i, CS[0]? = some i := ⟨_, List.getElem?_eq_getElem (List.length_pos_iff.2 hcn)⟩
      have := (cfl_mem.1 (HMEM.out 0 i hi)).1
      omega
    clear hcn hCS0
    -- the row of rules
    have hrow : ∀ W, Below V.heap.size V W → ∀ i ∈ cfl L new.fi L.length, ∃ (o : Fx) (g oib oic : Nat), L[i]? = some o ∧ i < L.length ∧ SA = some ⟨g, 0, none⟩ ∧ W.cell? ⟨ti, 1, none⟩ = some (.slice (some ⟨g, 0, none⟩) L.length SC) ∧ W.cell? ⟨g, i * 5, none⟩ = some (.slice (some ⟨oib, 0, none⟩) o.idx.length oic) ∧
        W.cell? ⟨nf, 0, none⟩ = some (.slice (some ⟨ib, 0, none⟩) new.idx.length ic) ∧ o.idx.length ≤ 1000000 ∧ ∀ W', Below V.heap.size V W' → ∀ j y : Nat, o.idx[j]? = some y → W'.cell? ⟨oib, j, none⟩ = some (.int .i64 (y : Int)) := fun W h2 i hi => by
      obtain ⟨hil, o, ho, _⟩ := cfl_mem.1 hi
      obtain ⟨g, cap, oib, oic, oA, opc, hv2, hgti, ⟨o0, o1, o2, o3, o4⟩, hoq⟩ := HTV.out.at_ ho
      have hkc : ∀ (a : Addr) (u : Value), V.cell? a = some u → W.cell? a = some u := fun a u e => (World.cell?_of_block (h2.block a.block (lt_cell e))).trans e
      have hSA : SA = some ⟨g, 0, none⟩ := by injection hv2
      obtain ⟨_, _, _, _, e1, _, h3, _, h5, _, _⟩ := hoq
      injection e1 with e1 _
      injection e1 with e1 _ _
      injection e1 with e1
      injection e1 with e1 _ _
      subst e1
      refine ⟨o, g, oib, oic, ho, hil, hSA, ?_, hkc _ _ o0, hkc _ _ m0', h5, fun W' h' j y e => (World.cell?_of_block (h'.block _ (lt_cell (h3 j y e)))).trans (h3 j y e)⟩
      rw [← hSA]
      exact hkc _ _ c1'
    have HROW := Lib.hid hrow
    clear hrow
    have hil : new.idx.length ≤ 1000000 := by obtain ⟨_, _, _, _, _, _, _, _, h5, _⟩ := HN.out; exact h5
    go_wp2_with fail
    go_loopg [203] CS.length (fun gk s203 wx => ∃ k : Nat, s203 = .int .i64 k ∧ k ≤ CS.length ∧ gk = CS.length - k ∧ Below V.heap.size V wx ∧ ∀ i ∈ CS.take k, ∀ o, L[i]? = some o → ¬ o.idx.length < new.idx.length)
    case atStart => exact ⟨0, rfl, Nat.zero_le _, rfl, Below.refl _ _, by simp⟩
    case round =>
      obtain ⟨k, rfl, hk, rfl, hb2, hno⟩ := hrel
      obtain ⟨W, hW⟩ : ∃ W, W = wr := ⟨_, rfl⟩
      subst hW
      by_cases hlk : k < CS.length
      · obtain ⟨i, hi⟩ : ∃ i, CS[k]? = some i := ⟨_, List.getElem?_eq_getElem hlk⟩
        obtain ⟨o, g, oib, oic, ho, hil', hSA, t1, r0, q0, hol, hoi⟩ := HROW.out W hb2 i (HMEM.out k i hi)
        have hcc : W.cell? ⟨cg, k, none⟩ = some (.int .i64 i) := (World.cell?_of_block (hb2.block cg hcg)).trans (HCCL.out k i hi)
        have hi0 : (0 : Int) ≤ (i : Int) := by omega
        have hi1 : (i : Int) < (L.length : Int) := by omega
        have HNO := Lib.hid hno
        have HB2 := Lib.hid hb2
        have HI := Lib.hid hi
        have HO := Lib.hid ho
        clear hno hb2 hi ho hoi hSA c1' m0' m1' m2' m3' m4'
        by_cases hlt : o.idx.length < new.idx.length
        · go_upto_region 28 with fail
          go_quiet (fail)
          go_wp2_with fail
          rw [Exit.noGoto_ret]
          go_ret
          exact AddPost.same HTI.out (addFx_keep (HMEM.out k i HI.out) HO.out hlt) (HB.out.trans ((HB2.out.trans ((below_drewN _ _).mono HB2.out.size)).mono HB.out.size))
        · go_upto_region 28 with fail
          go_quiet (fail)
          go_wp2_with fail
          go_roundg (CS.length - (k + 1))
          case measure => omega
          case rel =>
            refine ⟨k + 1, by go_num, by omega, rfl, HB2.out.trans ((below_drewN _ _).mono HB2.out.size), fun i' hi' o' ho' => ?_⟩
            rw [take_snoc HI.out, List.mem_append] at hi'
            rcases hi' with hi' | hi'
            · exact HNO.out i' hi' o' ho'
            · obtain rfl : i' = i := by simpa using hi'
              rw [HO.out] at ho'
              obtain rfl := Option.some.inj ho'
              exact hlt
      · have hno : ∀ i ∈ cfl L new.fi L.length, ∀ o, L[i]? = some o → ¬ o.idx.length < new.idx.length := by
          rw [HCS.out]
          rwa [List.take_of_length_le (by omega)] at hno
        have HNO := Lib.hid hno
        have HB2 := Lib.hid hb2
        clear hno hb2 c1' m0' m1' m2' m3' m4'
        have hcg2 : cg < W.heap.size := Nat.lt_of_lt_of_le hcg HB2.out.size
        go_wp2_with fail
        go_loopg [225] CS.length (fun gk s225 wx => ∃ k : Nat, s225 = .int .i64 k ∧ k ≤ CS.length ∧ gk = CS.length - k ∧ Below V.heap.size V wx ∧ ∀ i ∈ CS.take k, ∀ o, L[i]? = some o → ¬ o.idx.length = new.idx.length)
        case atStart => exact ⟨0, rfl, Nat.zero_le _, rfl, HB2.out, by simp⟩
        case round =>
          clear HB2 hcg2 hlk
          obtain ⟨k, rfl, hk, rfl, hb2, hnq⟩ := hrel
          obtain ⟨W, hW⟩ : ∃ W, W = wr := ⟨_, rfl⟩
          subst hW
          by_cases hlk : k < CS.length
          · obtain ⟨i, hi⟩ : ∃ i, CS[k]? = some i := ⟨_, List.getElem?_eq_getElem hlk⟩
            obtain ⟨o, g, oib, oic, ho, hil', hSA, t1, r0, q0, hol, hoi⟩ := HROW.out W hb2 i (HMEM.out k i hi)
            have hcc : W.cell? ⟨cg, k, none⟩ = some (.int .i64 i) := (World.cell?_of_block (hb2.block cg hcg)).trans (HCCL.out k i hi)
            have hi0 : (0 : Int) ≤ (i : Int) := by omega
            have hi1 : (i : Int) < (L.length : Int) := by omega
            have HNQ := Lib.hid hnq
            have HB2 := Lib.hid hb2
            have HI := Lib.hid hi
            have HO := Lib.hid ho
            have HOI := Lib.hid hoi
            clear hnq hb2 hi ho hoi hSA
            by_cases heq : o.idx.length = new.idx.length
            · have hap : addFx L new = none := addFx_err HNO.out (HMEM.out k i HI.out) HO.out heq
              have HAP := Lib.hid hap
              have hby : ∀ W', Below V.heap.size V W' → Calls Tryz.prog 63 #[.pointer (some ⟨typ, 0, none⟩), .slice (some ⟨oib, 0, none⟩) o.idx.length oic] W' fun e w' => Below W'.heap.size W' w' ∧ ∃ (name tag : ByteArray) (t : Nat) (emb : Bool), e = .returned (.agg #[.string name, .string tag, .pointer (some ⟨t, 0, none⟩), .bool emb]) ∧ tag.size ≤ 2000 := fun W' h' => by
                have hx := HB.out.trans (h'.mono HB.out.size)
                refine byIndex_any fs typ oib oic o.idx W' (HG.out.keep (Ext.of_below hx)) HS.out (HPL.out o (List.mem_of_getElem? HO.out)) (HF.out.keep hx) (HOI.out W' h') hol
              have hbn : ∀ W', Below V.heap.size V W' → Calls Tryz.prog 63 #[.pointer (some ⟨typ, 0, none⟩), .slice (some ⟨ib, 0, none⟩) new.idx.length ic] W' fun e w' => Below W'.heap.size W' w' ∧ ∃ (name tag : ByteArray) (t : Nat) (emb : Bool), e = .returned (.agg #[.string name, .string tag, .pointer (some ⟨t, 0, none⟩), .bool emb]) ∧ tag.size ≤ 2000 := fun W' h' => by
                have hx := HB.out.trans (h'.mono HB.out.size)
                refine byIndex_any fs typ ib ic new.idx W' (HG.out.keep (Ext.of_below hx)) HS.out HPN.out (HF.out.keep hx) (fun j y e => ?_) hil
                obtain ⟨_, _, _, _, e1, _, h3, _⟩ := HNV.out
                injection e1 with e1 _
                injection e1 with e1 _ _
                injection e1 with e1
                injection e1 with e1 _ _
                subst e1
                exact (World.cell?_of_block (h'.block _ (lt_cell (h3 j y e)))).trans (h3 j y e)
              have HBY := Lib.hid hby
              have HBN := Lib.hid hbn
              clear hap hby hbn
              go_upto_region 35 with fail
              go_quiet (fail)
              obtain ⟨W2, hW2⟩ : ∃ W2, W2 = W.drewN nq := ⟨_, rfl⟩
              have hbW2 : Below V.heap.size V W2 := by rw [hW2]; exact HB2.out.trans ((below_drewN _ _).mono HB2.out.size)
              have r02 : W2.cell? ⟨g, i * 5, none⟩ = some (.slice (some ⟨oib, 0, none⟩) o.idx.length oic) := by rw [hW2]; exact r0
              have q02 : W2.cell? ⟨nf, 0, none⟩ = some (.slice (some ⟨ib, 0, none⟩) new.idx.length ic) := by rw [hW2]; exact q0
              rw [← hW2]
              have HBW2 := Lib.hid hbW2
              have hnf2 : nf < W2.heap.size := lt_cell q02
              clear hW2 hbW2 t1 r0 q0 hcc heq
              go_wp2_with (go_at_call 63; refine (HBY.out W2 HBW2.out).mono ?_; rintro e w3 ⟨hb3, nm1, tg1, t1, em1, rfl, ht1⟩; refine Hid.out ?_)
              refine Lib.hid ?_
              have q03 : w3.cell? ⟨nf, 0, none⟩ = some (.slice (some ⟨ib, 0, none⟩) new.idx.length ic) := (World.cell?_of_block (hb3.block nf hnf2)).trans q02
              have hnf3 : nf < w3.heap.size := lt_cell q03
              have HB3 := Lib.hid (HBW2.out.trans (hb3.mono HBW2.out.size))
              clear hb3 q02 r02
              go_wp2_with (go_at_call 63; refine (HBN.out _ (by exact HB3.out.alloc HB3.out.size _)).mono ?_; rintro e w4 ⟨hb4, nm2, tg2, t2, em2, rfl, ht2⟩; refine Hid.out ?_)
              refine Lib.hid ?_
              go_upto_region 38 with fail
              obtain ⟨W5, hW5⟩ : ∃ W5, W5 = w4.alloc (.cells #[.string nm2, .string tg2, .pointer (some ⟨t2, 0, none⟩), .bool em2] 116) := ⟨_, rfl⟩
              have hs34 : w3.heap.size < w4.heap.size := by have := hb4.size; simp at this; omega
              have hs5 : W5.heap.size = w4.heap.size + 1 := by rw [hW5]; simp
              have hb5 : Below V.heap.size V W5 := by rw [hW5]; exact (((HB3.out.alloc HB3.out.size _).trans (hb4.mono (by have := HB3.out.size; simp; omega))).alloc (by have := HB3.out.size; omega) _)
              have e1 : w4.heap[w3.heap.size]? = some (.cells #[.string nm1, .string tg1, .pointer (some ⟨t1, 0, none⟩), .bool em1] 116) := (hb4.block w3.heap.size (by simp)).trans (heap_alloc_new w3 _)
              have e2 : W5.heap[w3.heap.size]? = some (.cells #[.string nm1, .string tg1, .pointer (some ⟨t1, 0, none⟩), .bool em1] 116) := by rw [hW5]; exact (Below.heap_alloc w4 _ _ hs34).trans e1
              have e3 : W5.heap[w4.heap.size]? = some (.cells #[.string nm2, .string tg2, .pointer (some ⟨t2, 0, none⟩), .bool em2] 116) := by rw [hW5]; exact heap_alloc_new w4 _
              have a10 : W5.cell? ⟨w3.heap.size, 0, none⟩ = some (.string nm1) := by simp only [World.cell?, e2]; rfl
              have a11 : W5.cell? ⟨w3.heap.size, 1, none⟩ = some (.string tg1) := by simp only [World.cell?, e2]; rfl
              have a20 : W5.cell? ⟨w4.heap.size, 0, none⟩ = some (.string nm2) := by simp only [World.cell?, e3]; rfl
              have a21 : W5.cell? ⟨w4.heap.size, 1, none⟩ = some (.string tg2) := by simp only [World.cell?, e3]; rfl
              rw [← hW5]
              have HB5 := Lib.hid hb5
              have hl3 : w3.heap.size < W5.heap.size := by omega
              have hl4 : w4.heap.size < W5.heap.size := by omega
              have hget : ∀ (s : ByteArray) (W' : World), s.size ≤ 2000 → Below V.heap.size V W' → Calls Tryz.prog 43 #[.string s, .string ⟨#[120, 109, 108]⟩] W' fun e w' => e = .returned (.string (tg s)) ∧ Below W'.heap.size W' w' := fun s W' h1 h2 => by
                have hx := HB.out.trans (h2.mono HB.out.size)
                exact HTG.out.2 s W' h1 (Nat.le_trans hB hx.size) (HTB.out.keep (hx.mono hB))
              have HGET := Lib.hid hget
              have HY1 := Lib.hid (hget tg1 W5.drew ht1 (hb5.trans ((below_drewN W5 1).mono hb5.size)))
              have HY2 := Lib.hid (hget tg2 W5.drew ht2 (hb5.trans ((below_drewN W5 1).mono hb5.size)))
              clear hW5 hb5 e1 e2 e3 hget hb4 hs5 q03
              clear HN n0' n1' n2' n3' n4' HNT HNOW HNV HCCL HROW hq35 hi0 hi1 hcg hcl hc1 HBY HBN HBW2 HB3
              go_region_held3 (fun w' => w'.cell? ⟨w3.heap.size, 0, none⟩ = some (.string nm1) ∧ w'.cell? ⟨w3.heap.size, 1, none⟩ = some (.string tg1) ∧ w'.cell? ⟨w4.heap.size, 0, none⟩ = some (.string nm2) ∧ w'.cell? ⟨w4.heap.size, 1, none⟩ = some (.string tg2))
                (first | exact ⟨a10, a11, a20, a21⟩ | exact ⟨d10, d11, d20, d21⟩ | exact ⟨c10, c11, c20, c21⟩ | exact ⟨(World.cell?_of_block (Below.heap_alloc w7 _ _ hl37)).trans d10, (World.cell?_of_block (Below.heap_alloc w7 _ _ hl37)).trans d11, (World.cell?_of_block (Below.heap_alloc w7 _ _ hl47)).trans d20, (World.cell?_of_block (Below.heap_alloc w7 _ _ hl47)).trans d21⟩)
                (first
                  | (go_at_call 43; (with_reducible refine HX1.out.mono ?_); rintro e w7 ⟨rfl, hb7⟩; have d10 := (World.cell?_of_block (hb7.block w3.heap.size hl36)).trans c10; have d11 := (World.cell?_of_block (hb7.block w3.heap.size hl36)).trans c11; have d20 := (World.cell?_of_block (hb7.block w4.heap.size hl46)).trans c20; have d21 := (World.cell?_of_block (hb7.block w4.heap.size hl46)).trans c21; have HB7 := Lib.hid (HB6.out.trans (hb7.mono HB6.out.size)); have hl37 := lt_cell d10; have hl47 := lt_cell d20; clear hb7)
                  | (go_at_call 43; (with_reducible refine HX2.out.mono ?_); rintro e w7 ⟨rfl, hb7⟩; have d10 := (World.cell?_of_block (hb7.block w3.heap.size hl36)).trans c10; have d11 := (World.cell?_of_block (hb7.block w3.heap.size hl36)).trans c11; have d20 := (World.cell?_of_block (hb7.block w4.heap.size hl46)).trans c20; have d21 := (World.cell?_of_block (hb7.block w4.heap.size hl46)).trans c21; have HB7 := Lib.hid (HB6.out.trans (hb7.mono HB6.out.size)); have hl37 := lt_cell d10; have hl47 := lt_cell d20; clear hb7)
                  | (go_at_call 43; (with_reducible refine HY1.out.mono ?_); rintro e w6 ⟨rfl, hb6⟩; have c10 := (World.cell?_of_block (hb6.block w3.heap.size hl3)).trans a10; have c11 := (World.cell?_of_block (hb6.block w3.heap.size hl3)).trans a11; have c20 := (World.cell?_of_block (hb6.block w4.heap.size hl4)).trans a20; have c21 := (World.cell?_of_block (hb6.block w4.heap.size hl4)).trans a21; have HB6 := Lib.hid (HB5.out.trans ((below_of_drew hb6).mono HB5.out.size)); have hl36 := lt_cell c10; have hl46 := lt_cell c20; have HX1 := Lib.hid (HGET.out tg1 w6 ht1 HB6.out); have HX2 := Lib.hid (HGET.out tg2 w6 ht2 HB6.out); clear hb6)
                  | (go_at_call 43; (with_reducible refine HY2.out.mono ?_); rintro e w6 ⟨rfl, hb6⟩; have c10 := (World.cell?_of_block (hb6.block w3.heap.size hl3)).trans a10; have c11 := (World.cell?_of_block (hb6.block w3.heap.size hl3)).trans a11; have c20 := (World.cell?_of_block (hb6.block w4.heap.size hl4)).trans a20; have c21 := (World.cell?_of_block (hb6.block w4.heap.size hl4)).trans a21; have HB6 := Lib.hid (HB5.out.trans ((below_of_drew hb6).mono HB5.out.size)); have hl36 := lt_cell c10; have hl46 := lt_cell c20; have HX1 := Lib.hid (HGET.out tg1 w6 ht1 HB6.out); have HX2 := Lib.hid (HGET.out tg2 w6 ht2 HB6.out); clear hb6))
              all_goals
                go_wp2_with fail
                rw [Exit.noGoto_ret]
                go_ret
                exact AddPost.bad HTI.out HAP.out (HB.out.trans ((HB7.out.alloc (by have := HB7.out.size; omega) _).mono HB.out.size)) (by have := HB7.out.size; omega) (TagE.new _ _ _ _ _ _ _)
            · go_upto_region 35 with fail
              go_quiet (fail)
              go_wp2_with fail
              go_roundg (CS.length - (k + 1))
              case measure => omega
              case rel =>
                refine ⟨k + 1, by go_num, by omega, rfl, HB2.out.trans ((below_drewN _ _).mono HB2.out.size), fun i' hi' o' ho' => ?_⟩
                rw [take_snoc HI.out, List.mem_append] at hi'
                rcases hi' with hi' | hi'
                · exact HNQ.out i' hi' o' ho'
                · obtain rfl : i' = i := by simpa using hi'
                  rw [HO.out] at ho'
                  obtain rfl := Option.some.inj ho'
                  exact heq
          · have hnq : ∀ i ∈ cfl L new.fi L.length, ∀ o, L[i]? = some o → ¬ o.idx.length = new.idx.length := by
              rw [HCS.out]
              rwa [List.take_of_length_le (by omega)] at hnq
            have hap : addFx L new = some ((L.filter fun o => !confl o.fi new.fi) ++ [new]) := by
              obtain ⟨i, hi⟩ : ∃ i, CS[0]? = some i := ⟨_, List.getElem?_eq_getElem (List.length_pos_iff.2 HCN.out)⟩
              exact addFx_drop HNO.out hnq (HMEM.out 0 i hi)
            have HAP := Lib.hid hap
            obtain ⟨g, rfl⟩ : ∃ g, SA = some ⟨g, 0, none⟩ := by
              obtain ⟨i, hi⟩ : ∃ i, CS[0]? = some i := ⟨_, List.getElem?_eq_getElem (List.length_pos_iff.2 HCN.out)⟩
              obtain ⟨_, g, _, _, _, _, h, _⟩ := HROW.out W hb2 i (HMEM.out 0 i hi)
              exact ⟨g, h⟩
            have hgw0 : g < w.heap.size := (HTI.out.own.lt g rfl).2
            have hTW := HTV.out.below hb2
            have hm1 : 1 ≤ CS.length := List.length_pos_iff.2 HCN.out
            have HTW := Lib.hid hTW
            have HB2 := Lib.hid hb2
            have hc0W : W.cell? ⟨ti, 0, none⟩ = V.cell? ⟨ti, 0, none⟩ := World.cell?_of_block (hb2.block ti (by omega))
            have hf0W : W.frozen? ⟨ti, 0, none⟩ = V.frozen? ⟨ti, 0, none⟩ := World.frozen?_of_block (hb2.block ti (by omega))
            have HC0 := Lib.hid hc0W
            have HF0 := Lib.hid hf0W
            have hcg2 : cg < W.heap.size := Nat.lt_of_lt_of_le hcg HB2.out.size
            clear hnq hap hTW hb2 hc0W hf0W
            go_wp2_with fail
            go_loopg [19] CS.length (fun gk s19 wx => ∃ (q : Nat) (c : Int) (K : List Fx) (vK : List (List Value)), s19 = .int .i64 c ∧ c = (q : Int) - 1 ∧ q ≤ CS.length ∧ q = gk ∧ Kil L new.fi q K ∧ TiV wx base ti K (.slice (some ⟨g, 0, none⟩) K.length SC) vK ∧
              Ext (fun k => k = ti ∨ k = g) V wx ∧ wx.cell? ⟨ti, 0, none⟩ = V.cell? ⟨ti, 0, none⟩ ∧ wx.frozen? ⟨ti, 0, none⟩ = V.frozen? ⟨ti, 0, none⟩)
            case atStart =>
              refine ⟨CS.length, _, L, vss, rfl, rfl, Nat.le_refl _, rfl, ?_, HTW.out, (Ext.of_below HB2.out).mono (S := fun _ => False) fun _ _ e => e.elim, HC0.out, HF0.out⟩
              rw [← HCS.out]
              exact Kil.start L new.fi
            case round =>
              clear HB2 HTW hcg2 hlk HC0 HF0 hm1
              obtain ⟨q, c, K, vK, rfl, hc, hq, rfl, hkil, hTK, hxK, hc0K, hf0K⟩ := hrel
              obtain ⟨W, hW⟩ : ∃ W, W = wr := ⟨_, rfl⟩
              subst hW
              have hcK := hTK.c1
              have hfK := hTK.nf
              have hWV : w.heap.size ≤ W.heap.size := by have := hxK.size; omega
              have hnw : nf < W.heap.size := by have := hxK.size; omega
              have htw : ti < W.heap.size := by have := hxK.size; omega
              have hgti : g ≠ ti := fun e => hTK.far (by rw [e]; rfl)
              have hgw : g < W.heap.size := (hTK.own.lt g rfl).2
              have hgnf : nf ≠ g := fun e => HNOW.out (by rw [e]; rfl)
              have hkl : K.length ≤ L.length := hkil.len
              have HKIL := Lib.hid hkil
              have HTK := Lib.hid hTK
              have HXK := Lib.hid hxK
              have HC0 := Lib.hid hc0K
              have HF0 := Lib.hid hf0K
              clear hkil hTK hxK hc0K hf0K
              cases q with
              | zero =>
                obtain rfl : c = -1 := by simpa using hc
                have hK := HKIL.out.done
                have hap2 : addFx L new = some (K ++ [new]) := by rw [hK]; exact HAP.out
                have HAP2 := Lib.hid hap2
                clear hK hap2 hc
                have hnfb : W.heap[nf]? = V.heap[nf]? := HXK.out.block nf (by omega) (fun h => h.elim HNT.out hgnf)
                have m0' : W.cell? ⟨nf, 0, none⟩ = some (.slice (some ⟨ib, 0, none⟩) new.idx.length ic) := (World.cell?_of_block hnfb).trans ((World.cell?_of_block (HB.out.block nf hnf)).trans n0')
                have m1' : W.cell? ⟨nf, 1, none⟩ = some (.string new.fi.name) := (World.cell?_of_block hnfb).trans ((World.cell?_of_block (HB.out.block nf hnf)).trans n1')
                have m2' : W.cell? ⟨nf, 2, none⟩ = some (.string new.fi.xmlns) := (World.cell?_of_block hnfb).trans ((World.cell?_of_block (HB.out.block nf hnf)).trans n2')
                have m3' : W.cell? ⟨nf, 3, none⟩ = some (.int .i64 new.fi.flags) := (World.cell?_of_block hnfb).trans ((World.cell?_of_block (HB.out.block nf hnf)).trans n3')
                have m4' : W.cell? ⟨nf, 4, none⟩ = some (.slice A new.fi.parents.length pc) := (World.cell?_of_block hnfb).trans ((World.cell?_of_block (HB.out.block nf hnf)).trans n4')
                have hNW : FxQ W (fun b => b ≠ ti ∧ (Value.slice (some ⟨g, 0, none⟩) L.length SC).ownBlock ≠ some b) _ new := HNV.out.keep fun b hl ⟨h1, h2⟩ => ⟨⟨h1, h2⟩, HXK.out.block b hl (fun h => h.elim h1 (fun e => h2 (by rw [e]; rfl)))⟩
                have HNW := Lib.hid hNW
                have hown := HTK.out.own
                have HOWN := Lib.hid hown
                clear hown hNW hnfb
                obtain ⟨i0, hi, hz0, hz1, hz2⟩ := info_parts info85
                go_upto_region 46 with fail
                have ha : ∀ o (a : Addr) (u : Value), W.cell? a = some u → (W.alloc o).drew.cell? a = some u := fun o a u e => (World.cell?_of_block (Below.heap_alloc W o a.block (lt_cell e))).trans e
                have hb0 := fun o => ha o _ _ m0'
                have hb1 := fun o => ha o _ _ m1'
                have hb2 := fun o => ha o _ _ m2'
                have hb3 := fun o => ha o _ _ m3'
                have hb4 := fun o => ha o _ _ m4'
                clear ha
                have hne := HNT.out
                refine wp_region_held_drew (S := (fun w' => w'.cell? ⟨nf, 0, none⟩ = some (.slice (some ⟨ib, 0, none⟩) new.idx.length ic) ∧ w'.cell? ⟨nf, 1, none⟩ = some (.string new.fi.name) ∧ w'.cell? ⟨nf, 2, none⟩ = some (.string new.fi.xmlns) ∧ w'.cell? ⟨nf, 3, none⟩ = some (.int .i64 new.fi.flags) ∧ w'.cell? ⟨nf, 4, none⟩ = some (.slice A new.fi.parents.length pc))) (by kernel_rfl) ?_ (fun hHeldq => ?_)
                · (try dsimp only); exact ⟨m0', m1', m2', m3', m4'⟩
                refine wpAnyH_take (i := 0) (oi := _) (v := ?_) rfl (by kernel_rfl) (by kernel_rfl) (by kernel_rfl) (fun _ _ _ h => h) (Or.inl ⟨by rfl, ?_⟩) (by assumption) ?_
                rotate_left
                · (intro wq hSwq; (try dsimp only at hSwq); go_simp; (try with_reducible rfl))
                try simp only [Act.put, List.getElem_toArray, List.getElem_cons_zero, List.getElem_cons_succ, List.setIfInBounds_toArray, List.set_cons_zero, List.set_cons_succ]
                refine wpAnyH_take (i := 1) (oi := _) (v := ?_) rfl (by kernel_rfl) (by kernel_rfl) (by kernel_rfl) (fun _ _ _ h => h) (Or.inl ⟨by rfl, ?_⟩) (by assumption) ?_
                rotate_left
                · (intro wq hSwq; (try dsimp only at hSwq); go_simp; (try with_reducible rfl))
                try simp only [Act.put, List.getElem_toArray, List.getElem_cons_zero, List.getElem_cons_succ, List.setIfInBounds_toArray, List.set_cons_zero, List.set_cons_succ]
                refine wpAnyH_take (i := 2) (oi := _) (v := ?_) rfl (by kernel_rfl) (by kernel_rfl) (by kernel_rfl) (fun _ _ _ h => h) (Or.inl ⟨by rfl, ?_⟩) (by assumption) ?_
                rotate_left
                · (intro wq hSwq; (try dsimp only at hSwq); go_simp; (try with_reducible rfl))
                try simp only [Act.put, List.getElem_toArray, List.getElem_cons_zero, List.getElem_cons_succ, List.setIfInBounds_toArray, List.set_cons_zero, List.set_cons_succ]
                refine wpAnyH_take (i := 3) (oi := _) (v := ?_) rfl (by kernel_rfl) (by kernel_rfl) (by kernel_rfl) (fun _ _ _ h => h) (Or.inl ⟨by rfl, ?_⟩) (by assumption) ?_
                rotate_left
                · (intro wq hSwq; (try dsimp only at hSwq); go_simp; (try with_reducible rfl))
                try simp only [Act.put, List.getElem_toArray, List.getElem_cons_zero, List.getElem_cons_succ, List.setIfInBounds_toArray, List.set_cons_zero, List.set_cons_succ]
                refine wpAnyH_take (i := 5) (oi := _) (v := ?_) rfl (by kernel_rfl) (by kernel_rfl) (by kernel_rfl) (fun _ _ _ h => h) (Or.inl ⟨by rfl, ?_⟩) (by assumption) ?_
                rotate_left
                · (intro wq hSwq; (try dsimp only at hSwq); go_simp; (try with_reducible rfl))
                try simp only [Act.put, List.getElem_toArray, List.getElem_cons_zero, List.getElem_cons_succ, List.setIfInBounds_toArray, List.set_cons_zero, List.set_cons_succ]
                refine wpAnyH_take (i := 6) (oi := _) (v := ?_) rfl (by kernel_rfl) (by kernel_rfl) (by kernel_rfl) (fun _ _ _ h => h) (Or.inl ⟨by rfl, ?_⟩) (by assumption) ?_
                rotate_left
                · (intro wq hSwq; (try dsimp only at hSwq); go_simp; (try with_reducible rfl))
                try simp only [Act.put, List.getElem_toArray, List.getElem_cons_zero, List.getElem_cons_succ, List.setIfInBounds_toArray, List.set_cons_zero, List.set_cons_succ]
                refine wpAnyH_take (i := 7) (oi := _) (v := ?_) rfl (by kernel_rfl) (by kernel_rfl) (by kernel_rfl) (fun _ _ _ h => h) (Or.inl ⟨by rfl, ?_⟩) (by assumption) ?_
                rotate_left
                · (intro wq hSwq; (try dsimp only at hSwq); go_simp; (try with_reducible rfl))
                try simp only [Act.put, List.getElem_toArray, List.getElem_cons_zero, List.getElem_cons_succ, List.setIfInBounds_toArray, List.set_cons_zero, List.set_cons_succ]
                refine wpAnyH_ready (rs := [4, 8]) (by kernel_rfl) (by simp) ?_
                refine AllReadyH.cons rfl (fun Kq hKq => ?_) (AllReadyH.cons rfl (fun Kq hKq => ?_) AllReadyH.nil)
                go_simp
                refine hKq.out _ _ ?_ (fun hHeld2 => ?_)
                · (try dsimp only); exact ⟨m0', m1', m2', m3', m4'⟩
                clear hKq Kq hHeldq
                have hHeldq := hHeld2
                clear hHeld2
                try simp only [Act.put, List.getElem_toArray, List.getElem_cons_zero, List.getElem_cons_succ, List.setIfInBounds_toArray, List.set_cons_zero, List.set_cons_succ]
                refine wpAnyH_ready (rs := [8]) (by kernel_rfl) (by simp) ?_
                refine AllReadyH.cons rfl (fun Kq hKq => ?_) AllReadyH.nil
                go_simp
                refine hKq.out _ _ ?_ (fun hHeld2 => ?_)
                · (try dsimp only); exact ⟨hb0 _, hb1 _, hb2 _, hb3 _, hb4 _⟩
                clear hKq Kq hHeldq
                have hHeldq := hHeld2
                clear hHeld2
                try simp only [Act.put, List.getElem_toArray, List.getElem_cons_zero, List.getElem_cons_succ, List.setIfInBounds_toArray, List.set_cons_zero, List.set_cons_succ]
                rotate_left
                go_simp
                refine hKq.out _ _ ?_ (fun hHeld2 => ?_)
                · (try dsimp only); exact ⟨hb0 _, hb1 _, hb2 _, hb3 _, hb4 _⟩
                clear hKq Kq hHeldq
                have hHeldq := hHeld2
                clear hHeld2
                try simp only [Act.put, List.getElem_toArray, List.getElem_cons_zero, List.getElem_cons_succ, List.setIfInBounds_toArray, List.set_cons_zero, List.set_cons_succ]
                refine wpAnyH_ready (rs := [4]) (by kernel_rfl) (by simp) ?_
                refine AllReadyH.cons rfl (fun Kq hKq => ?_) AllReadyH.nil
                go_simp
                refine hKq.out _ _ ?_ (fun hHeld2 => ?_)
                · (try dsimp only); exact ⟨hb0 _, hb1 _, hb2 _, hb3 _, hb4 _⟩
                clear hKq Kq hHeldq
                have hHeldq := hHeld2
                clear hHeld2
                try simp only [Act.put, List.getElem_toArray, List.getElem_cons_zero, List.getElem_cons_succ, List.setIfInBounds_toArray, List.set_cons_zero, List.set_cons_succ]
                all_goals
                  refine wpAnyH_ready (rs := [9]) (by kernel_rfl) (by simp) ?_
                  refine AllReadyH.cons rfl (fun Kq hKq => ?_) AllReadyH.nil
                  (refine step_append_lies _ rfl (.tmp 316) (.tmp 320) 80 rfl base 85 i0 _ 5 88 Tryz.underlying80 hi hz0 hz1 hz2 rfl (by decide) (.slice (some ⟨g, 0, none⟩) K.length SC) K.length (flat vK) (by simp [Act.eval, Act.put]) (World.ownsRow.alloc HOWN.out _) ⟨W.heap.size, 0, none⟩ 1 1 [.slice (some ⟨ib, 0, none⟩) new.idx.length ic, .string new.fi.name, .string new.fi.xmlns, .int .i64 new.fi.flags, .slice A new.fi.parents.length pc] (by simp [Act.eval, Act.put]) rfl (World.news_of_block (heap_alloc_new W.drew _)) (by simp [Value.oneCell']) (by decide) (by unfold maxLen; omega) (by omega) (by simp; omega) _ rfl ?_; intro g9 cap w9 hown9 hg9 hat hlt9; have hx9 : w9.heap[nf]? = W.drew.heap[nf]? := (hg9.block nf (by simp; omega) (fun e => HNOW.out e.symm)).trans (Below.heap_alloc W.drew _ nf (by simp; omega)); have k0 := (World.cell?_of_block hx9).trans m0'; have k1 := (World.cell?_of_block hx9).trans m1'; have k2 := (World.cell?_of_block hx9).trans m2'; have k3 := (World.cell?_of_block hx9).trans m3'; have k4 := (World.cell?_of_block hx9).trans m4'; have hx9' : w9.heap[ti]? = W.drew.heap[ti]? := (hg9.block ti (by simp; omega) (fun e => HFAR.out e.symm)).trans (Below.heap_alloc W.drew _ ti (by simp; omega)); have q5' := (World.cell?_of_block hx9').trans hcK; have qf' := (World.frozen?_of_block hx9').trans hfK; have HO9 := Lib.hid hown9; have HG9 := Lib.hid hg9; have HAT := Lib.hid hat; clear hown9 hg9 hat hx9 hx9')
                  refine hKq.out _ _ ?_ (fun hHeld2 => ?_)
                  · (try dsimp only); exact ⟨k0, k1, k2, k3, k4⟩
                  clear hKq Kq hHeldq
                  have hHeldq := hHeld2
                  clear hHeld2
                  try simp only [Act.put, List.getElem_toArray, List.getElem_cons_zero, List.getElem_cons_succ, List.setIfInBounds_toArray, List.set_cons_zero, List.set_cons_succ]
                  refine wpAnyH_take (i := 10) (oi := _) (v := ?_) rfl (by kernel_rfl) (by kernel_rfl) (by kernel_rfl) (fun _ _ _ h => h) (Or.inl ⟨by rfl, ?_⟩) (by assumption) ?_
                  rotate_left
                  · (intro wq hSwq; (try dsimp only at hSwq); go_simp; (try with_reducible rfl))
                  try simp only [Act.put, List.getElem_toArray, List.getElem_cons_zero, List.getElem_cons_succ, List.setIfInBounds_toArray, List.set_cons_zero, List.set_cons_succ]
                  refine wpAnyH_take (i := 11) (oi := _) (v := ?_) rfl (by kernel_rfl) (by kernel_rfl) (by kernel_rfl) (fun _ _ _ h => h) (Or.inl ⟨by rfl, ?_⟩) (by assumption) ?_
                  rotate_left
                  · (intro wq hSwq; (try dsimp only at hSwq); go_simp; (try with_reducible rfl))
                  try simp only [Act.put, List.getElem_toArray, List.getElem_cons_zero, List.getElem_cons_succ, List.setIfInBounds_toArray, List.set_cons_zero, List.set_cons_succ]
                  refine wpAnyH_ready (rs := [12]) (by kernel_rfl) (by simp) ?_
                  refine AllReadyH.cons rfl (fun Kq hKq => ?_) AllReadyH.nil
                  go_simp
                  refine hKq.out _ _ ?_ (fun hHeld2 => ?_)
                  · (try dsimp only); exact ⟨(World.cell?_setCell_far _ _ _ _ (by simp; omega)).trans k0, (World.cell?_setCell_far _ _ _ _ (by simp; omega)).trans k1, (World.cell?_setCell_far _ _ _ _ (by simp; omega)).trans k2, (World.cell?_setCell_far _ _ _ _ (by simp; omega)).trans k3, (World.cell?_setCell_far _ _ _ _ (by simp; omega)).trans k4⟩
                  clear hKq Kq hHeldq
                  have hHeldq := hHeld2
                  clear hHeld2
                  try simp only [Act.put, List.getElem_toArray, List.getElem_cons_zero, List.getElem_cons_succ, List.setIfInBounds_toArray, List.set_cons_zero, List.set_cons_succ]
                  refine wpAnyH_done (by kernel_rfl) ?_ _
                all_goals
                  go_wp2_with fail
                  rw [Exit.noGoto_ret]
                  go_ret
                  refine AddPost.pushed (((Ext.of_below HB.out).mono (S := fun _ => False) fun _ _ e => e.elim).trans (HXK.out.mono fun k _ h => ?_)) (HC0.out.trans (World.cell?_of_block (HB.out.block ti hti))) (HF0.out.trans (World.frozen?_of_block (HB.out.block ti hti))) HTK.out rfl hti HFAR.out HNW.out HAP2.out HO9.out HG9.out HAT.out hlt9
                  rcases h with h | h
                  · exact .inl h
                  · right
                    rw [h]
                    rfl
              | succ q =>
                obtain rfl : c = (q : Int) := by omega
                obtain ⟨i, hi⟩ : ∃ i, CS[q]? = some i := ⟨_, List.getElem?_eq_getElem (by omega)⟩
                obtain ⟨hik, hst⟩ := HKIL.out.step (i := i) (by rw [HCS.out]; exact hi)
                have hcc : W.cell? ⟨cg, q, none⟩ = some (.int .i64 i) := (World.cell?_of_block (HXK.out.block cg hcg (by omega))).trans (HCCL.out q i hi)
                obtain ⟨cur, hcur, hcap, hcs⟩ : ∃ cur : Array Value, W.heap[g]? = some (.cells cur 85 (0, 0)) ∧ K.length ≤ SC ∧ cur.size = SC * 5 := by
                  rcases HTK.out.own.2 with ⟨e, _⟩ | ⟨g', cap', cur', e, _, h1, h2, h3, h4, _⟩
                  · cases e
                  · injection e with e1 _ e3
                    injection e1 with e1
                    injection e1 with e1
                    subst e1 e3
                    exact ⟨cur', h1, h2, h4⟩
                have hi0 : (0 : Int) ≤ (i : Int) := by omega
                have hi1 : (i : Int) ≤ (K.length : Int) := by omega
                have hi2 : (0 : Int) ≤ (i : Int) + 1 := by omega
                have hi3 : (i : Int) + 1 ≤ (K.length : Int) := by omega
                have hi4 : (i : Int) ≤ (SC : Int) := by omega
                have hi5 : (i : Int) + 1 ≤ (SC : Int) := by omega
                have hq0 : (q : Int) ≤ 1000000 := by omega
                have HST := Lib.hid hst
                have HI := Lib.hid hi
                have HCUR := Lib.hid hcur
                have HCSZ := Lib.hid hcs
                clear hst hi hcur hcs hc
                go_upto_region 44 with fail
                have hwr : IntKind.i64.wrap ((i : Int) + 1) = (i : Int) + 1 := IntWalk.i64_in _ (by omega)
                have hsl : ∀ W : World, (Instr.slice 80 (.slice (some ⟨g, 0, none⟩) K.length SC) (some (.int .i64 ((i : Int) + 1))) none none).run Tryz.prog W = .ok (.slice (some (restAt g (i + 1) SC)) (K.length - (i + 1)) (SC - (i + 1))) W := fun W => run_rest g K.length SC i (by omega) W
                have hsl0 : ∀ W : World, (Instr.slice 80 (.slice (some ⟨g, 0, none⟩) K.length SC) (some (.int .i64 (i : Int))) none none).run Tryz.prog W = .ok (.slice (some ⟨g, i * 5, none⟩) (K.length - i) (SC - i)) W := fun W => run_from g K.length SC i (by omega) (by omega) W
                go_still_tail 13, (by kernel_rfl)
                obtain ⟨MV, hMV⟩ : ∃ MV, (flat vK).drop ((i + 1) * 5) = MV := ⟨_, rfl⟩
                have hfl : (flat vK).length = K.length * 5 := by rw [flat_len vK HTK.out.lens, HTK.out.len]
                have hmvl : MV.length = Nat.min (K.length - (i + 1)) (K.length - i) * 5 := by
                  rw [show Nat.min (K.length - (i + 1)) (K.length - i) = K.length - (i + 1) from Nat.min_eq_left (by omega), ← hMV, List.length_drop, hfl]
                  omega
                have hmvl2 : MV.length = (K.length - (i + 1)) * 5 := by rw [← hMV, List.length_drop, hfl]; omega
                have hmv1 : ∀ u ∈ MV, u.oneCell' = true := fun u hu => HTK.out.ones u (by rw [← hMV] at hu; exact List.mem_of_mem_drop hu)
                have hmvs : ∀ j v, MV[j]? = some v → W.cell? ((restAt g (i + 1) SC).add j) = some v := fun j v e => by
                  have hj : j < MV.length := (List.getElem?_eq_some_iff.1 e).1
                  have e2 : (flat vK)[(i + 1) * 5 + j]? = some v := by rw [← List.getElem?_drop, hMV]; exact e
                  have h3 := HTK.out.own.cells rfl _ _ e2
                  have h4 : restAt g (i + 1) SC = ⟨g, (i + 1) * 5, none⟩ := by unfold restAt; rw [if_neg (by omega)]
                  rw [h4]
                  have h5 : ((⟨g, (i + 1) * 5, none⟩ : Addr).add j) = (⟨g, 0, none⟩ : Addr).add ((i + 1) * 5 + j) := by simp [Addr.add]
                  rw [h5]
                  exact h3
                have hfit : i * 5 + MV.length ≤ cur.size := by rw [HCSZ.out, hmvl2]; omega
                refine wpList_copy_rows rfl (.tmp 289) (.tmp 296) 80 80 rfl 85 Tryz.underlying80 5 (by kernel_rfl) g (i * 5) (K.length - i) (SC - i) (restAt g (i + 1) SC) (K.length - (i + 1)) (SC - (i + 1)) rfl rfl cur 85 HCUR.out MV hmvl hmvs hfit hmv1 ?_
                rintro w5 hw5
                have hb5 : ∀ k, k ≠ g → w5.heap[k]? = W.heap[k]? := fun k hk => by rw [hw5]; exact setRow_other _ g k _ hk
                have hg5 : w5.heap[g]? = some (.cells (cur.toList.take (i * 5) ++ MV ++ cur.toList.drop (i * 5 + MV.length)).toArray 85 (0, 0)) := by rw [hw5]; exact setRow_heap _ g _ _ _ _ HCUR.out
                have hs5 : w5.heap.size = W.heap.size := by rw [hw5]; simp [World.setRow]
                have ho5 : w5.os = W.os ∧ w5.tape = W.tape ∧ w5.output = W.output := by rw [hw5]; exact ⟨rfl, rfl, rfl⟩
                have hc5 : w5.cell? ⟨ti, 1, none⟩ = some (.slice (some ⟨g, 0, none⟩) K.length SC) := (World.cell?_of_block (hb5 ti (fun e => hgti e.symm))).trans hcK
                have hf5 : w5.frozen? ⟨ti, 1, none⟩ = false := (World.frozen?_of_block (hb5 ti (fun e => hgti e.symm))).trans hfK
                have HMV := Lib.hid hMV
                have HB5 := Lib.hid hb5
                have HG5 := Lib.hid hg5
                have HS5 := Lib.hid hs5
                have HO5 := Lib.hid ho5
                clear hw5 hb5 hg5 hs5 ho5 hMV hfl hmvl hmvl2 hmv1 hmvs hfit hcK hfK hcc hsl hsl0 hwr
                have hwr : IntKind.i64.wrap ((K.length : Int) - 1) = (K.length : Int) - 1 := IntWalk.i64_in _ (by omega)
                have hsl : ∀ W : World, (Instr.slice 80 (.slice (some ⟨g, 0, none⟩) K.length SC) none (some (.int .i64 ((K.length : Int) - 1))) none).run Tryz.prog W = .ok (.slice (some ⟨g, 0, none⟩) (K.length - 1) SC) W := fun W => run_front g K.length SC (by omega) (by omega) W
                go_upto_region 45 with fail
                go_still_tail 14, (by kernel_rfl)
                go_wp2_with fail
                go_roundg q
                case measure => omega
                case rel =>
                  have hel : (K.eraseIdx i).length = K.length - 1 := by rw [List.length_eraseIdx, if_pos hik]
                  have hset : ∀ k, k ≠ ti → (w5.setCell ⟨ti, 1, none⟩ (.slice (some ⟨g, 0, none⟩) (K.length - 1) SC)).drew.heap[k]? = w5.heap[k]? := fun k hk => Below.heap_setCell w5 _ _ k hk
                  refine ⟨q, (q : Int) - 1, K.eraseIdx i, vK.eraseIdx i, rfl, rfl, by omega, rfl, HST.out, ?_, ?_, ?_, ?_⟩
                  · rw [hel]
                    refine TiV.erase HTK.out hik HCUR.out ?_ (fun k hk h1 h2 => (hset k h2).trans (HB5.out k h1)) ?_ ?_
                    · rw [HMV.out]
                      exact (hset g hgti).trans HG5.out
                    · exact World.cell?_setCell_same _ _ _ hc5
                    · exact (World.frozen?_setCell _ _ _ _).trans hf5
                  · refine HXK.out.trans ⟨HO5.out.1, HO5.out.2.1, HO5.out.2.2, ?_, fun k hk hn => ?_⟩
                    · have := HS5.out
                      simp [World.setCell, World.drew]
                      omega
                    · exact (hset k (fun e => hn (.inl e))).trans (HB5.out k (fun e => hn (.inr e)))
                  · exact ((World.cell?_setCell_other _ _ _ _ (fun e => by injection e with e1 e2; cases e2)).trans (World.cell?_of_block (HB5.out ti (fun e => hgti e.symm)))).trans HC0.out
                  · exact ((World.frozen?_setCell _ _ _ _).trans (World.frozen?_of_block (HB5.out ti (fun e => hgti e.symm)))).trans HF0.out
end Go.Proofs.YtnmgocbmofbppaaGreatDoor
