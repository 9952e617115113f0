/- addFieldInfo: its first loop. -/
import Derived.Test.YtnmgocbmofbppaaGreatDoorA26
import Derived.Deep.RegionHeld3
import Derived.Deep.RegionHeldLaw
import Derived.WalkMore
import Derived.KernelRfl
import Derived.Outline
import Derived.BigGuardPart
import Derived.Deep.DeepMust
import Derived.Deep.LoopGhost
import Derived.Deep.DeepCutAuto
import Derived.Deep.CutBlock
import Derived.Deep.QuietTactic
import Derived.BigQuiet
import Derived.Lib.Hide
import Derived.WalkSpells
import Derived.Deep.Light
import Derived.Deep.RegionWith
import Derived.WalkLawsBesides
import Derived.StillTailTactics

set_option linter.unusedVariables false
set_option linter.unusedSimpArgs false

namespace Go.Proofs.YtnmgocbmofbppaaGreatDoor
open Go.RowKit

theorem info3 : (Tryz.prog.info? 3).map (fun i => (i.zero, i.size, i.bytes)) = some (some (.int .i64 0), 1, 8) := by kernel_rfl
theorem below_drewN2 (w : World) (n m : Nat) : Below w.heap.size w ((w.drewN n).drewN m) := ⟨rfl, rfl, rfl, Nat.le_refl _, fun _ _ => rfl⟩
theorem info85 : (Tryz.prog.info? 85).map (fun i => (i.zero, i.size, i.bytes)) = some (some (.agg #[.slice none 0 0, .string ⟨#[]⟩, .string ⟨#[]⟩, .int .i64 0, .slice none 0 0]), 5, 88) := by kernel_rfl
/-- The first loop's body in a text. -/
def firstLoop : Code → Option Code
  | .loop c => some c
  | .seq a b => match firstLoop a with
    | some c => some c
    | none => firstLoop b
  | .block _ c => firstLoop c
  | .scope c => firstLoop c
  | .cond _ a b => match firstLoop a with
    | some c => some c
    | none => firstLoop b
  | _ => none
noncomputable def body45 : Code := (Tryz.f45.body.bind firstLoop).getD .skip
set_option maxHeartbeats 64000000 in
set_option maxRecDepth 1000000 in
theorem loop45 {n0 B : Nat} {am : Am} {l : AL Ty} {tg : ByteArray → ByteArray} (hTg : TagC tg B) (fs : List Fl) (typ ti nf base : Nat) (L : List Fx) (new : Fx) (v : Value) (vss : List (List Value)) (w : World) (hT : TiV w base ti L v vss) (hL : L.length ≤ 1000000) (hg : GNm n0 w am l) (hs : NdSz l) (hF : Fds n0 w am l fs typ) (hTb : Tabs B w) (hB : B ≤ w.heap.size) (hBase : base ≤ w.heap.size) (hpL : ∀ x ∈ L, PathOk l fs x.idx) (hpN : PathOk l fs new.idx) (hnt : nf ≠ ti) (hno : v.ownBlock ≠ some nf)
    (ib ic : Nat) (A : Option Addr) (pc : Nat) (hN : FxQ w (fun b => b ≠ ti ∧ v.ownBlock ≠ some b) [.slice (some ⟨ib, 0, none⟩) new.idx.length ic, .string new.fi.name, .string new.fi.xmlns, .int .i64 new.fi.flags, .slice A new.fi.parents.length pc] new)
    (n0' : w.cell? ⟨nf, 0, none⟩ = some (.slice (some ⟨ib, 0, none⟩) new.idx.length ic)) (n1' : w.cell? ⟨nf, 1, none⟩ = some (.string new.fi.name)) (n2' : w.cell? ⟨nf, 2, none⟩ = some (.string new.fi.xmlns)) (n3' : w.cell? ⟨nf, 3, none⟩ = some (.int .i64 new.fi.flags)) (n4' : w.cell? ⟨nf, 4, none⟩ = some (.slice A new.fi.parents.length pc)) (SA : Option Addr) (SC : Nat) (hv : v = .slice SA L.length SC) (Q0 : Exit → Act → World → Prop)
    (hexit : ∀ (u7 u8 u9 u10 u11 u28 u29 u30 u31 u32 u33 u34 u35 u36 u37 u38 u39 u40 u41 u42 u43 u44 u45 u46 u47 u48 u49 u50 u51 u52 u53 u54 u55 u56 u57 u58 u59 u60 u61 u62 u63 u64 u65 u66 u67 u68 u69 u70 u71 u72 u73 u74 u75 u76 u77 u78 u79 u80 u81 u82 u83 u84 u85 u86 u87 u88 u89 u90 u91 u92 u93 u94 u95 u96 u97 u98 u99 u100 u101 u102 u103 u104 u105 u106 u107 u108 u109 u110 u111 u112 u113 u114 u115 u116 u117 u118 u119 u120 u121 u122 u123 u124 u125 u126 u127 u128 u129 u130 u131 u132 u133 u134 u135 u136 u137 u138 u139 u140 u141 u142 u143 u144 u145 u146 u147 u148 u149 u150 u151 u152 u153 u154 u155 u156 u157 u158 u159 u160 u161 u162 u163 u164 u165 u166 u167 u168 u169 u170 u171 u172 u173 u174 u175 u176 u177 u178 u179 u180 u181 u182 u183 u184 u185 u186 : Value) (V : World), Below w.heap.size w V → V.ownsRow w.heap.size 3 1 u7 (cfl L new.fi L.length).length (intsOf (cfl L new.fi L.length)) → (cfl L new.fi L.length = [] → u7 = .slice none 0 0) → Q0 (.exit 0) ⟨List.toArray ((Value.pointer (some ⟨typ, 0, none⟩)) :: (Value.pointer (some ⟨ti, 0, none⟩)) :: (Value.pointer (some ⟨nf, 0, none⟩)) :: undef :: undef :: undef :: Value.nilIface :: u7 :: u8 :: u9 :: u10 :: u11 :: undef :: undef :: undef :: undef :: undef :: undef :: undef :: undef :: undef :: (Value.pointer (some ⟨ti, 0, none⟩)) :: (Value.pointer (some ⟨ti, 0, none⟩)) :: (Value.pointer (some ⟨ti, 1, none⟩)) :: (Value.slice SA L.length SC) :: (Value.int .i64 L.length) :: (Value.int .i64 L.length) :: (Value.bool false) :: u28 :: u29 :: u30 :: u31 :: u32 :: u33 :: u34 :: u35 :: u36 :: u37 :: u38 :: u39 :: u40 :: u41 :: u42 :: u43 :: u44 :: u45 :: u46 :: u47 :: u48 :: u49 :: u50 :: u51 :: u52 :: u53 :: u54 :: u55 :: u56 :: u57 :: u58 :: u59 :: u60 :: u61 :: u62 :: u63 :: u64 :: u65 :: u66 :: u67 :: u68 :: u69 :: u70 :: u71 :: u72 :: u73 :: u74 :: u75 :: u76 :: u77 :: u78 :: u79 :: u80 :: u81 :: u82 :: u83 :: u84 :: u85 :: u86 :: u87 :: u88 :: u89 :: u90 :: u91 :: u92 :: u93 :: u94 :: u95 :: u96 :: u97 :: u98 :: u99 :: u100 :: u101 :: u102 :: u103 :: u104 :: u105 :: u106 :: u107 :: u108 :: u109 :: u110 :: u111 :: u112 :: u113 :: u114 :: u115 :: u116 :: u117 :: u118 :: u119 :: u120 :: u121 :: u122 :: u123 :: u124 :: u125 :: u126 :: u127 :: u128 :: u129 :: u130 :: u131 :: u132 :: u133 :: u134 :: u135 :: u136 :: u137 :: u138 :: u139 :: u140 :: u141 :: u142 :: u143 :: u144 :: u145 :: u146 :: u147 :: u148 :: u149 :: u150 :: u151 :: u152 :: u153 :: u154 :: u155 :: u156 :: u157 :: u158 :: u159 :: u160 :: u161 :: u162 :: u163 :: u164 :: u165 :: u166 :: u167 :: u168 :: u169 :: u170 :: u171 :: u172 :: u173 :: u174 :: u175 :: u176 :: u177 :: u178 :: u179 :: u180 :: u181 :: u182 :: u183 :: u184 :: u185 :: u186 :: undef :: undef :: undef :: undef :: undef :: undef :: undef :: undef :: undef :: undef :: undef :: undef :: undef :: undef :: undef :: undef :: undef :: undef :: undef :: undef :: undef :: undef :: undef :: undef :: undef :: undef :: undef :: undef :: undef :: undef :: undef :: undef :: undef :: undef :: undef :: undef :: undef :: undef :: undef :: undef :: undef :: undef :: undef :: undef :: undef :: undef :: undef :: undef :: undef :: undef :: undef :: undef :: undef :: undef :: undef :: undef :: undef :: undef :: undef :: undef :: undef :: undef :: undef :: undef :: undef :: undef :: undef :: undef :: undef :: undef :: undef :: undef :: undef :: undef :: undef :: undef :: undef :: undef :: undef :: undef :: undef :: undef :: undef :: undef :: undef :: undef :: undef :: undef :: undef :: undef :: undef :: undef :: undef :: undef :: undef :: undef :: undef :: undef :: undef :: undef :: undef :: undef :: undef :: undef :: undef :: undef :: undef :: undef :: undef :: undef :: undef :: undef :: undef :: undef :: undef :: undef :: undef :: undef :: undef :: undef :: undef :: undef :: undef :: undef :: undef :: undef :: undef :: undef :: undef :: undef :: undef :: undef :: undef :: undef :: undef :: undef :: undef :: []), []⟩ V) :
    Code.wp Tryz.prog (Code.loop body45) Q0 ⟨List.toArray ((Value.pointer (some ⟨typ, 0, none⟩)) :: (Value.pointer (some ⟨ti, 0, none⟩)) :: (Value.pointer (some ⟨nf, 0, none⟩)) :: undef :: undef :: undef :: Value.nilIface :: (Value.slice none 0 0) :: undef :: undef :: undef :: undef :: undef :: undef :: undef :: undef :: undef :: undef :: undef :: undef :: undef :: (Value.pointer (some ⟨ti, 0, none⟩)) :: (Value.pointer (some ⟨ti, 0, none⟩)) :: (Value.pointer (some ⟨ti, 1, none⟩)) :: (Value.slice SA L.length SC) :: (Value.int .i64 L.length) :: (Value.int .i64 0) :: undef :: undef :: undef :: undef :: undef :: undef :: undef :: undef :: undef :: undef :: undef :: undef :: undef :: undef :: undef :: undef :: undef :: undef :: undef :: undef :: undef :: undef :: undef :: undef :: undef :: undef :: undef :: undef :: undef :: undef :: undef :: undef :: undef :: undef :: undef :: undef :: undef :: undef :: undef :: undef :: undef :: undef :: undef :: undef :: undef :: undef :: undef :: undef :: undef :: undef :: undef :: undef :: undef :: undef :: undef :: undef :: undef :: undef :: undef :: undef :: undef :: undef :: undef :: undef :: undef :: undef :: undef :: undef :: undef :: undef :: undef :: undef :: undef :: undef :: undef :: undef :: undef :: undef :: undef :: undef :: undef :: undef :: undef :: undef :: undef :: undef :: undef :: undef :: undef :: undef :: undef :: undef :: undef :: undef :: undef :: undef :: undef :: undef :: undef :: undef :: undef :: undef :: undef :: undef :: undef :: undef :: undef :: undef :: undef :: undef :: undef :: undef :: undef :: undef :: undef :: undef :: undef :: undef :: undef :: undef :: undef :: undef :: undef :: undef :: undef :: undef :: undef :: undef :: undef :: undef :: undef :: undef :: undef :: undef :: undef :: undef :: undef :: undef :: undef :: undef :: undef :: undef :: undef :: undef :: undef :: undef :: undef :: undef :: undef :: undef :: undef :: undef :: undef :: undef :: undef :: undef :: undef :: undef :: undef :: undef :: undef :: undef :: undef :: undef :: undef :: undef :: undef :: undef :: undef :: undef :: undef :: undef :: undef :: undef :: undef :: undef :: undef :: undef :: undef :: undef :: undef :: undef :: undef :: undef :: undef :: undef :: undef :: undef :: undef :: undef :: undef :: undef :: undef :: undef :: undef :: undef :: undef :: undef :: undef :: undef :: undef :: undef :: undef :: undef :: undef :: undef :: undef :: undef :: undef :: undef :: undef :: undef :: undef :: undef :: undef :: undef :: undef :: undef :: undef :: undef :: undef :: undef :: undef :: undef :: undef :: undef :: undef :: undef :: undef :: undef :: undef :: undef :: undef :: undef :: undef :: undef :: undef :: undef :: undef :: undef :: undef :: undef :: undef :: undef :: undef :: undef :: undef :: undef :: undef :: undef :: undef :: undef :: undef :: undef :: undef :: undef :: undef :: undef :: undef :: undef :: undef :: undef :: undef :: undef :: undef :: undef :: undef :: undef :: undef :: undef :: undef :: undef :: undef :: undef :: undef :: undef :: undef :: undef :: undef :: undef :: undef :: undef :: undef :: undef :: undef :: undef :: undef :: undef :: undef :: undef :: undef :: undef :: undef :: undef :: undef :: undef :: undef :: []), []⟩ w := by
  have HTI := Lib.hid hT
  have HN := Lib.hid hN
  have HTG := Lib.hid hTg
  have HG := Lib.hid hg
  have HS := Lib.hid hs
  have HF := Lib.hid hF
  have HTB := Lib.hid hTb
  have HPL := Lib.hid hpL
  have HPN := Lib.hid hpN
  have HNT := Lib.hid hnt
  have HNOW := Lib.hid hno
  clear hTg hg hs hF hTb hpL hpN hnt hno
  have hti : ti < w.heap.size := lt_cell hT.c1
  have hnf : nf < w.heap.size := lt_cell n0'
  have hc1 := hT.c1
  rw [hv] at hc1
  clear hT hN
  have HEX := Lib.hid hexit
  clear hexit
  conv => arg 2; arg 1; whnf
  go_loopg [26, 7] L.length (fun gk s26 s7 wr => ∃ j : Nat, s26 = .int .i64 j ∧ j ≤ L.length ∧ gk = L.length - j ∧ Below w.heap.size w wr ∧ wr.ownsRow w.heap.size 3 1 s7 (cfl L new.fi j).length (intsOf (cfl L new.fi j)) ∧ (cfl L new.fi j = [] → s7 = .slice none 0 0))
  case atStart => exact ⟨0, rfl, Nat.zero_le _, rfl, Below.refl _ _, World.ownsRow_nil _ _ _ _, fun _ => rfl⟩
  case round =>
    obtain ⟨j, rfl, hj, rfl, hb, hown, hnil⟩ := hrel
    have HNIL := Lib.hid hnil
    clear hnil
    obtain ⟨V, hV⟩ : ∃ V, V = wr := ⟨_, rfl⟩
    subst hV
    by_cases hlt : j < L.length
    · obtain ⟨o, ho⟩ : ∃ o, L[j]? = some o := ⟨_, List.getElem?_eq_getElem hlt⟩
      obtain ⟨g, cap, oib, oic, oA, opc, hv2, hgti, ⟨o0, o1, o2, o3, o4⟩, hoq⟩ := HTI.out.at_ ho
      have hgl : g < w.heap.size := lt_cell o0
      have hSA : SA = some ⟨g, 0, none⟩ := by rw [hv] at hv2; injection hv2
      have hcs := cfl_succ L new.fi j o ho
      subst hSA
      have hall : ∀ W, Below V.heap.size V W → (W.cell? ⟨ti, 1, none⟩ = some (.slice (some ⟨g, 0, none⟩) L.length SC) ∧ W.cell? ⟨g, j * 5, none⟩ = some (.slice (some ⟨oib, 0, none⟩) o.idx.length oic) ∧ W.cell? ⟨g, j * 5 + 1, none⟩ = some (.string o.fi.name) ∧ W.cell? ⟨g, j * 5 + 2, none⟩ = some (.string o.fi.xmlns) ∧
          W.cell? ⟨g, j * 5 + 3, none⟩ = some (.int .i64 o.fi.flags) ∧ W.cell? ⟨g, j * 5 + 4, none⟩ = some (.slice oA o.fi.parents.length opc)) ∧ (W.cell? ⟨nf, 0, none⟩ = some (.slice (some ⟨ib, 0, none⟩) new.idx.length ic) ∧ W.cell? ⟨nf, 1, none⟩ = some (.string new.fi.name) ∧ W.cell? ⟨nf, 2, none⟩ = some (.string new.fi.xmlns) ∧
          W.cell? ⟨nf, 3, none⟩ = some (.int .i64 new.fi.flags) ∧ W.cell? ⟨nf, 4, none⟩ = some (.slice A new.fi.parents.length pc)) := fun W h2 => by
        have hkc : ∀ (a : Addr) (u : Value), w.cell? a = some u → W.cell? a = some u := fun a u e => (World.cell?_of_block ((hb.trans (h2.mono hb.size)).block a.block (lt_cell e))).trans e
        exact ⟨⟨hkc _ _ hc1, hkc _ _ o0, hkc _ _ o1, hkc _ _ o2, hkc _ _ o3, hkc _ _ o4⟩, hkc _ _ n0', hkc _ _ n1', hkc _ _ n2', hkc _ _ n3', hkc _ _ n4'⟩
      have hpar : ∀ W, Below V.heap.size V W → (∀ k y, o.fi.parents[k]? = some y → ∃ g', oA = some ⟨g', 0, none⟩ ∧ W.cell? ⟨g', k, none⟩ = some (.string y)) ∧ (∀ k y, new.fi.parents[k]? = some y → ∃ g', A = some ⟨g', 0, none⟩ ∧ W.cell? ⟨g', k, none⟩ = some (.string y)) := fun W h2 => by
        have hkc : ∀ (a : Addr) (u : Value), w.cell? a = some u → W.cell? a = some u := fun a u e => (World.cell?_of_block ((hb.trans (h2.mono hb.size)).block a.block (lt_cell e))).trans e
        refine ⟨fun k y e => ?_, fun k y e => ?_⟩
        · obtain ⟨_, _, _, _, e1, _, _, _, _, _, h7⟩ := hoq
          injection e1 with _ e1
          injection e1 with _ e1
          injection e1 with _ e1
          injection e1 with _ e1
          injection e1 with e1 _
          injection e1 with e1 _ _
          subst e1
          obtain ⟨g', h8, _, h10⟩ := h7 k y e
          exact ⟨g', h8, hkc _ _ h10⟩
        · obtain ⟨_, _, _, _, e1, _, _, _, _, _, h7⟩ := HN.out
          injection e1 with _ e1
          injection e1 with _ e1
          injection e1 with _ e1
          injection e1 with _ e1
          injection e1 with e1 _
          injection e1 with e1 _ _
          subst e1
          obtain ⟨g', h8, _, h10⟩ := h7 k y e
          exact ⟨g', h8, hkc _ _ h10⟩
      have hno : confl o.fi new.fi = false → ∀ W, Below V.heap.size V W → ∃ j' : Nat, Value.int .i64 ((j : Int) + 1) = .int .i64 j' ∧ j' ≤ L.length ∧ L.length - (j + 1) = L.length - j' ∧ Below w.heap.size w W ∧ W.ownsRow w.heap.size 3 1 u7 (cfl L new.fi j').length (intsOf (cfl L new.fi j')) ∧ (cfl L new.fi j' = [] → u7 = .slice none 0 0) := fun hc W h2 =>
        ⟨j + 1, rfl, by omega, rfl, hb.trans (h2.mono hb.size), by rw [hcs, hc]; exact ownG_below hown h2, by rw [hcs, hc]; exact HNIL.out⟩
      have hyes : confl o.fi new.fi = true → ∀ (W : World) (g9 cap9 : Nat) (w9 : World), Below V.heap.size V W → w9.ownsRow w.heap.size 3 1 (.slice (some ⟨g9, 0, none⟩) ((cfl L new.fi j).length + 1) cap9) ((cfl L new.fi j).length + 1) (intsOf (cfl L new.fi j) ++ [.int .i64 j]) → (W.alloc (.cells #[.int .i64 (j : Int)] 3)).grownBy w9 u7.ownBlock →
          ∃ j' : Nat, Value.int .i64 ((j : Int) + 1) = .int .i64 j' ∧ j' ≤ L.length ∧ L.length - (j + 1) = L.length - j' ∧ Below w.heap.size w w9 ∧ w9.ownsRow w.heap.size 3 1 (.slice (some ⟨g9, 0, none⟩) ((cfl L new.fi j).length + 1) cap9) (cfl L new.fi j').length (intsOf (cfl L new.fi j')) ∧ (cfl L new.fi j' = [] → Value.slice (some ⟨g9, 0, none⟩) ((cfl L new.fi j).length + 1) cap9 = .slice none 0 0) := fun hc W g9 cap9 w9 h2 ho9 hg9 => by
        have hbW := hb.trans (h2.mono hb.size)
        refine ⟨j + 1, rfl, by omega, rfl, ?_, ?_, fun e => by rw [hcs, hc] at e; simp at e⟩
        · have hs := hbW.size
          refine hbW.trans ⟨hg9.os, hg9.tape, hg9.output, by have := hg9.size; simp at this; omega, fun k hk => ?_⟩
          exact (hg9.block k (by simp; omega) (fun e => by have := (ownG_lt hown e.symm).1; omega)).trans (Below.heap_alloc W _ k (by omega))
        · rw [hcs, hc]
          simpa [intsOf] using ho9
      have HYES := Lib.hid hyes
      clear hyes
      have hol : o.fi.parents.length ≤ 1000000 := by obtain ⟨_, _, _, _, _, _, _, _, _, h6, _⟩ := hoq; exact h6
      have hnl : new.fi.parents.length ≤ 1000000 := by obtain ⟨_, _, _, _, _, _, _, _, _, h6, _⟩ := HN.out; exact h6
      obtain ⟨fo, hfo⟩ : ∃ x, bits .and .i64 o.fi.flags 127 = x := ⟨_, rfl⟩
      obtain ⟨fn, hfn⟩ : ∃ x, bits .and .i64 new.fi.flags 127 = x := ⟨_, rfl⟩
      have HALL := Lib.hid hall
      have HPAR := Lib.hid hpar
      have hcl : (cfl L new.fi j).length ≤ 1000000 := by
        have : (cfl L new.fi j).length ≤ (List.range j).length := List.length_filter_le _ _
        simp at this
        omega
      have HNO := Lib.hid hno
      have HB := Lib.hid hb
      have HOW := Lib.hid hown
      have HCS := Lib.hid hcs
      have HOQ := Lib.hid hoq
      obtain ⟨⟨c1', o0', o1', o2', o3', o4'⟩, m0', m1', m2', m3', m4'⟩ := hall V (Below.refl _ _)
      clear hb hown hcs hoq hall hpar hno o0 o1 o2 o3 o4
      by_cases hff : fo = fn
      · go_upto_region 6 with fail
        go_quiet (fail)
        obtain ⟨W1, hW1⟩ : ∃ W, W = V.drewN nq := ⟨_, rfl⟩
        have hb1 : Below V.heap.size V W1 := by rw [hW1]; exact below_drewN _ _
        obtain ⟨⟨c1', o0', o1', o2', o3', o4'⟩, m0', m1', m2', m3', m4'⟩ := HALL.out W1 hb1
        rw [← hW1]
        clear hW1
        have HB1 := Lib.hid hb1
        clear hb1
        obtain ⟨qo, hqo⟩ : ∃ q, o.fi.xmlns.toList.isEmpty = q := ⟨_, rfl⟩
        obtain ⟨qn, hqn⟩ : ∃ q, new.fi.xmlns.toList.isEmpty = q := ⟨_, rfl⟩
        obtain ⟨qe, hqe⟩ : ∃ q, (o.fi.xmlns.toList == new.fi.xmlns.toList) = q := ⟨_, rfl⟩
        have hconf : confl o.fi new.fi = (!(!qo && !qn && !qe) && preOk o.fi.parents new.fi.parents && tailC o.fi new.fi) := by
          unfold confl fAnd
          rw [hfo, hfn, decide_eq_true hff, hqo, hqn, hqe, Bool.true_and]
        have HCO := Lib.hid hconf
        clear hconf
        go_upto_region 7 with fail
        go_cut [68] from 46 to 67 (fun s68 wx => s68 = .bool (!qo && !qn && !qe) ∧ Below W1.heap.size W1 wx)
        case first =>
          cases qo with
          | true =>
            go_quiet (fail)
            go_wp2_with fail
            go_meet
            exact ⟨rfl, below_drewN _ _⟩
          | false =>
            cases qn with
            | true =>
              go_quiet (fail)
              go_wp2_with fail
              go_meet
              exact ⟨rfl, below_drewN _ _⟩
            | false =>
              go_quiet (fail)
              go_wp2_with fail
              go_meet
              exact ⟨by simp, below_drewN _ _⟩
        case rest =>
          obtain ⟨rfl, hb2⟩ := hcut
          obtain ⟨W2, hW2⟩ : ∃ W, W = wc := ⟨_, rfl⟩
          subst hW2
          have hb2 := HB1.out.trans (hb2.mono HB1.out.size)
          clear c1' o0' o1' o2' o3' o4' m0' m1' m2' m3' m4' HB1
          obtain ⟨⟨c1', o0', o1', o2', o3', o4'⟩, m0', m1', m2', m3', m4'⟩ := HALL.out W2 hb2
          have HB2 := Lib.hid hb2
          clear hb2
          generalize (!qo && !qn && !qe) = qq at HCO ⊢
          cases qq with
          | true =>
            have hcf : confl o.fi new.fi = false := HCO.out
            go_wp2_with fail
            go_roundg (L.length - (j + 1))
            case measure => omega
            case rel => exact HNO.out hcf _ HB2.out
          | false =>
            have hcf : confl o.fi new.fi = (preOk o.fi.parents new.fi.parents && tailC o.fi new.fi) := by rw [HCO.out]; simp
            have HCF := Lib.hid hcf
            clear hcf
            obtain ⟨M, hM⟩ : ∃ M, min new.fi.parents.length o.fi.parents.length = M := ⟨_, rfl⟩
            have hM1 : M ≤ new.fi.parents.length := by omega
            have hM2 : M ≤ o.fi.parents.length := by omega
            have hM3 : min (new.fi.parents.length : Int) (o.fi.parents.length : Int) = (M : Int) := by omega
            go_upto_region 8 with fail
            go_quiet (fail)
            obtain ⟨W3, hW3⟩ : ∃ W, W = W2.drewN nq := ⟨_, rfl⟩
            have hb3 : Below V.heap.size V W3 := by rw [hW3]; exact HB2.out.trans ((below_drewN _ _).mono HB2.out.size)
            rw [← hW3]
            have HB3 := Lib.hid hb3
            clear hW3 hb3 c1' o0' o1' o2' o3' o4' m0' m1' m2' m3' m4' HB2
            go_wp2_with fail
            go_loopg [11] M (fun gp s11 wx => ∃ p : Nat, s11 = .int .i64 p ∧ p ≤ M ∧ gp = M - p ∧ Below V.heap.size V wx ∧ preOk (o.fi.parents.drop p) (new.fi.parents.drop p) = preOk o.fi.parents new.fi.parents)
            case atStart => exact ⟨0, rfl, Nat.zero_le _, rfl, HB3.out, rfl⟩
            case round =>
              clear HB3
              obtain ⟨p, rfl, hp, rfl, hb4, hpre⟩ := hrel
              have HB4 := Lib.hid hb4
              obtain ⟨⟨c1', o0', o1', o2', o3', o4'⟩, m0', m1', m2', m3', m4'⟩ := HALL.out wr hb4
              obtain ⟨hpo, hpn⟩ := HPAR.out wr hb4
              by_cases hlp : p < M
              · obtain ⟨oy, hoy⟩ : ∃ y, o.fi.parents[p]? = some y := ⟨_, List.getElem?_eq_getElem (by omega)⟩
                obtain ⟨ny, hny⟩ : ∃ y, new.fi.parents[p]? = some y := ⟨_, List.getElem?_eq_getElem (by omega)⟩
                obtain ⟨og, hog, hoc⟩ := hpo p oy hoy
                obtain ⟨ng, hng, hnc⟩ := hpn p ny hny
                have hd1 : o.fi.parents.drop p = oy :: o.fi.parents.drop (p + 1) := drop_cons hoy
                have hd2 : new.fi.parents.drop p = ny :: new.fi.parents.drop (p + 1) := drop_cons hny
                have hpre2 : ((oy.toList == ny.toList) && preOk (o.fi.parents.drop (p + 1)) (new.fi.parents.drop (p + 1))) = preOk o.fi.parents new.fi.parents := by
                  rw [← hpre, hd1, hd2]
                  rfl
                rw [hog] at o4'
                rw [hng] at m4'
                obtain ⟨qp, hqp⟩ : ∃ q, (oy.toList == ny.toList) = q := ⟨_, rfl⟩
                rw [hqp] at hpre2
                have HPRE := Lib.hid hpre2
                clear hpo hpn hd1 hd2 hpre hpre2 hb4
                go_upto_region 12 with fail
                cases qp with
                | false =>
                  have hcf : confl o.fi new.fi = false := by rw [HCF.out, ← HPRE.out]; rfl
                  go_quiet (fail)
                  go_wp2_with fail
                  go_roundg (L.length - (j + 1))
                  case measure => omega
                  case rel => exact HNO.out hcf _ (HB4.out.trans ((below_drewN _ _).mono HB4.out.size))
                | true =>
                  go_quiet (fail)
                  go_wp2_with fail
                  go_roundg (M - (p + 1))
                  case measure => omega
                  case rel => exact ⟨p + 1, by go_num, by omega, rfl, HB4.out.trans ((below_drewN _ _).mono HB4.out.size), HPRE.out⟩
              · have hpt : preOk o.fi.parents new.fi.parents = true := by
                  rw [← hpre]
                  rcases Nat.le_total new.fi.parents.length o.fi.parents.length with h | h
                  · rw [show new.fi.parents.drop p = [] from List.drop_eq_nil_of_le (by omega)]
                    cases o.fi.parents.drop p <;> rfl
                  · rw [show o.fi.parents.drop p = [] from List.drop_eq_nil_of_le (by omega)]
                    rfl
                have hcf : confl o.fi new.fi = tailC o.fi new.fi := by rw [HCF.out, hpt]; rfl
                have HCT := Lib.hid hcf
                clear hpre hpt hcf hb4
                go_upto_region 13 with fail
                by_cases h1 : new.fi.parents.length < o.fi.parents.length
                · go_quiet (fail)
                  obtain ⟨W5, hW5⟩ : ∃ W, W = wr.drewN nq := ⟨_, rfl⟩
                  have hbW5 : Below V.heap.size V W5 := by rw [hW5]; exact HB4.out.trans ((below_drewN _ _).mono HB4.out.size)
                  rw [← hW5]
                  have HBW5 := Lib.hid hbW5
                  clear hW5 c1' o0' o1' o2' o3' o4' m0' m1' m2' m3' m4'
                  obtain ⟨⟨c1', o0', o1', o2', o3', o4'⟩, m0', m1', m2', m3', m4'⟩ := HALL.out W5 hbW5
                  obtain ⟨hpo, hpn⟩ := HPAR.out W5 hbW5
                  clear hbW5
                  obtain ⟨y, hy⟩ : ∃ y, o.fi.parents[new.fi.parents.length]? = some y := ⟨_, List.getElem?_eq_getElem h1⟩
                  obtain ⟨yg, hyg, hyc⟩ := hpo _ y hy
                  rw [hyg] at o4'
                  have htc : tailC o.fi new.fi = (y.toList == new.fi.name.toList) := by
                    unfold tailC
                    rw [if_pos h1, hy]
                    rfl
                  obtain ⟨qy, hqy⟩ : ∃ q, (y.toList == new.fi.name.toList) = q := ⟨_, rfl⟩
                  rw [hqy] at htc
                  have HTC := Lib.hid htc
                  clear htc hpo hpn
                  go_upto_region 14 with fail
                  cases qy with
                  | false =>
                    have hcf : confl o.fi new.fi = false := by rw [HCT.out, HTC.out]
                    go_quiet (fail)
                    obtain ⟨W6, hW6⟩ : ∃ W, W = W5.drewN nq := ⟨_, rfl⟩
                    have hbW6 : Below V.heap.size V W6 := by rw [hW6]; exact HBW5.out.trans ((below_drewN _ _).mono HBW5.out.size)
                    rw [← hW6]
                    have HBW6 := Lib.hid hbW6
                    clear hW6 c1' o0' o1' o2' o3' o4' m0' m1' m2' m3' m4'
                    clear hbW6
                    go_wp2_with fail
                    go_roundg (L.length - (j + 1))
                    case measure => omega
                    case rel => exact HNO.out hcf _ HBW6.out
                  | true =>
                    have hcf : confl o.fi new.fi = true := by rw [HCT.out, HTC.out]
                    go_quiet (fail)
                    obtain ⟨W6, hW6⟩ : ∃ W, W = W5.drewN nq := ⟨_, rfl⟩
                    have hbW6 : Below V.heap.size V W6 := by rw [hW6]; exact HBW5.out.trans ((below_drewN _ _).mono HBW5.out.size)
                    rw [← hW6]
                    have HBW6 := Lib.hid hbW6
                    clear hW6 c1' o0' o1' o2' o3' o4' m0' m1' m2' m3' m4'
                    clear hbW6
                    have hown6 := ownG_below HOW.out HBW6.out
                    have hsz6 : w.heap.size ≤ W6.heap.size := Nat.le_trans HB.out.size HBW6.out.size
                    have HOWN6 := Lib.hid hown6
                    clear hown6
                    obtain ⟨i0, hi, hz0, hz1, hz2⟩ := info_parts info3
                    go_wp2_with (at_builtin; refine wpList_append_lies _ rfl (.tmp 127) (.tmp 129) 35 rfl w.heap.size 3 i0 _ 1 8 Tryz.underlying35 hi hz0 hz1 hz2 rfl (by decide) u7 (cfl L new.fi j).length (intsOf (cfl L new.fi j)) rfl (World.ownsRow.alloc HOWN6.out _) ⟨W6.heap.size, 0, none⟩ 1 1 [.int .i64 j] rfl rfl (World.news_of_block (heap_alloc_new W6 _)) (by simp [Value.oneCell']) (by decide) (by unfold maxLen; omega) (by omega) (by simp; omega) _ rfl ?_; intro g9 cap9 w9 hown9 hg9 hat hlt9; refine Hid.out ?_)
                    refine Lib.hid ?_
                    have harm := HYES.out hcf W6 g9 cap9 w9 HBW6.out hown9 hg9
                    have HARM := Lib.hid harm
                    clear harm hown9 hg9
                    go_wp2_with fail
                    go_roundg (L.length - (j + 1))
                    case measure => omega
                    case rel => exact HARM.out
                · go_quiet (fail)
                  obtain ⟨W5, hW5⟩ : ∃ W, W = wr.drewN nq := ⟨_, rfl⟩
                  have hbW5 : Below V.heap.size V W5 := by rw [hW5]; exact HB4.out.trans ((below_drewN _ _).mono HB4.out.size)
                  rw [← hW5]
                  have HBW5 := Lib.hid hbW5
                  clear hW5 c1' o0' o1' o2' o3' o4' m0' m1' m2' m3' m4'
                  obtain ⟨⟨c1', o0', o1', o2', o3', o4'⟩, m0', m1', m2', m3', m4'⟩ := HALL.out W5 hbW5
                  obtain ⟨hpo, hpn⟩ := HPAR.out W5 hbW5
                  clear hbW5
                  go_upto_region 16 with fail
                  by_cases h2 : o.fi.parents.length < new.fi.parents.length
                  · go_quiet (fail)
                    obtain ⟨W6, hW6⟩ : ∃ W, W = W5.drewN nq := ⟨_, rfl⟩
                    have hbW6 : Below V.heap.size V W6 := by rw [hW6]; exact HBW5.out.trans ((below_drewN _ _).mono HBW5.out.size)
                    rw [← hW6]
                    have HBW6 := Lib.hid hbW6
                    clear hW6 c1' o0' o1' o2' o3' o4' m0' m1' m2' m3' m4'
                    obtain ⟨⟨c1', o0', o1', o2', o3', o4'⟩, m0', m1', m2', m3', m4'⟩ := HALL.out W6 hbW6
                    obtain ⟨hpo, hpn⟩ := HPAR.out W6 hbW6
                    clear hbW6
                    obtain ⟨y, hy⟩ : ∃ y, new.fi.parents[o.fi.parents.length]? = some y := ⟨_, List.getElem?_eq_getElem h2⟩
                    obtain ⟨yg, hyg, hyc⟩ := hpn _ y hy
                    rw [hyg] at m4'
                    have htc : tailC o.fi new.fi = (y.toList == o.fi.name.toList) := by
                      unfold tailC
                      rw [if_neg h1, if_pos h2, hy]
                      rfl
                    obtain ⟨qy, hqy⟩ : ∃ q, (y.toList == o.fi.name.toList) = q := ⟨_, rfl⟩
                    rw [hqy] at htc
                    have HTC := Lib.hid htc
                    clear htc hpo hpn
                    go_upto_region 17 with fail
                    cases qy with
                    | false =>
                      have hcf : confl o.fi new.fi = false := by rw [HCT.out, HTC.out]
                      go_quiet (fail)
                      obtain ⟨W7, hW7⟩ : ∃ W, W = W6.drewN nq := ⟨_, rfl⟩
                      have hbW7 : Below V.heap.size V W7 := by rw [hW7]; exact HBW6.out.trans ((below_drewN _ _).mono HBW6.out.size)
                      rw [← hW7]
                      have HBW7 := Lib.hid hbW7
                      clear hW7 c1' o0' o1' o2' o3' o4' m0' m1' m2' m3' m4'
                      clear hbW7
                      go_wp2_with fail
                      go_roundg (L.length - (j + 1))
                      case measure => omega
                      case rel => exact HNO.out hcf _ HBW7.out
                    | true =>
                      have hcf : confl o.fi new.fi = true := by rw [HCT.out, HTC.out]
                      go_quiet (fail)
                      obtain ⟨W7, hW7⟩ : ∃ W, W = W6.drewN nq := ⟨_, rfl⟩
                      have hbW7 : Below V.heap.size V W7 := by rw [hW7]; exact HBW6.out.trans ((below_drewN _ _).mono HBW6.out.size)
                      rw [← hW7]
                      have HBW7 := Lib.hid hbW7
                      clear hW7 c1' o0' o1' o2' o3' o4' m0' m1' m2' m3' m4'
                      clear hbW7
                      have hown6 := ownG_below HOW.out HBW7.out
                      have hsz6 : w.heap.size ≤ W7.heap.size := Nat.le_trans HB.out.size HBW7.out.size
                      have HOWN6 := Lib.hid hown6
                      clear hown6
                      obtain ⟨i0, hi, hz0, hz1, hz2⟩ := info_parts info3
                      go_wp2_with (at_builtin; refine wpList_append_lies _ rfl (.tmp 158) (.tmp 160) 35 rfl w.heap.size 3 i0 _ 1 8 Tryz.underlying35 hi hz0 hz1 hz2 rfl (by decide) u7 (cfl L new.fi j).length (intsOf (cfl L new.fi j)) rfl (World.ownsRow.alloc HOWN6.out _) ⟨W7.heap.size, 0, none⟩ 1 1 [.int .i64 j] rfl rfl (World.news_of_block (heap_alloc_new W7 _)) (by simp [Value.oneCell']) (by decide) (by unfold maxLen; omega) (by omega) (by simp; omega) _ rfl ?_; intro g9 cap9 w9 hown9 hg9 hat hlt9; refine Hid.out ?_)
                      refine Lib.hid ?_
                      have harm := HYES.out hcf W7 g9 cap9 w9 HBW7.out hown9 hg9
                      have HARM := Lib.hid harm
                      clear harm hown9 hg9
                      go_wp2_with fail
                      go_roundg (L.length - (j + 1))
                      case measure => omega
                      case rel => exact HARM.out
                  · go_quiet (fail)
                    obtain ⟨W6, hW6⟩ : ∃ W, W = W5.drewN nq := ⟨_, rfl⟩
                    have hbW6 : Below V.heap.size V W6 := by rw [hW6]; exact HBW5.out.trans ((below_drewN _ _).mono HBW5.out.size)
                    rw [← hW6]
                    have HBW6 := Lib.hid hbW6
                    clear hW6 c1' o0' o1' o2' o3' o4' m0' m1' m2' m3' m4'
                    obtain ⟨⟨c1', o0', o1', o2', o3', o4'⟩, m0', m1', m2', m3', m4'⟩ := HALL.out W6 hbW6
                    obtain ⟨hpo, hpn⟩ := HPAR.out W6 hbW6
                    clear hbW6
                    have htc : tailC o.fi new.fi = ((new.fi.name.toList == o.fi.name.toList) && (new.fi.xmlns.toList == o.fi.xmlns.toList)) := by
                      unfold tailC
                      rw [if_neg h1, if_neg h2]
                    obtain ⟨qa, hqa⟩ : ∃ q, (new.fi.name.toList == o.fi.name.toList) = q := ⟨_, rfl⟩
                    obtain ⟨qb, hqb⟩ : ∃ q, (new.fi.xmlns.toList == o.fi.xmlns.toList) = q := ⟨_, rfl⟩
                    rw [hqa, hqb] at htc
                    have HTC := Lib.hid htc
                    clear htc hpo hpn
                    go_upto_region 19 with fail
                    cases qa with
                    | false =>
                      have hcf : confl o.fi new.fi = false := by rw [HCT.out, HTC.out]; rfl
                      go_quiet (fail)
                      obtain ⟨W7, hW7⟩ : ∃ W, W = W6.drewN nq := ⟨_, rfl⟩
                      have hbW7 : Below V.heap.size V W7 := by rw [hW7]; exact HBW6.out.trans ((below_drewN _ _).mono HBW6.out.size)
                      rw [← hW7]
                      have HBW7 := Lib.hid hbW7
                      clear hW7 c1' o0' o1' o2' o3' o4' m0' m1' m2' m3' m4'
                      clear hbW7
                      go_wp2_with fail
                      go_roundg (L.length - (j + 1))
                      case measure => omega
                      case rel => exact HNO.out hcf _ HBW7.out
                    | true =>
                      cases qb with
                      | false =>
                        have hcf : confl o.fi new.fi = false := by rw [HCT.out, HTC.out]; rfl
                        go_quiet (fail)
                        obtain ⟨W7, hW7⟩ : ∃ W, W = W6.drewN nq := ⟨_, rfl⟩
                        have hbW7 : Below V.heap.size V W7 := by rw [hW7]; exact HBW6.out.trans ((below_drewN _ _).mono HBW6.out.size)
                        rw [← hW7]
                        have HBW7 := Lib.hid hbW7
                        clear hW7 c1' o0' o1' o2' o3' o4' m0' m1' m2' m3' m4'
                        clear hbW7
                        go_wp2_with fail
                        go_roundg (L.length - (j + 1))
                        case measure => omega
                        case rel => exact HNO.out hcf _ HBW7.out
                      | true =>
                        have hcf : confl o.fi new.fi = true := by rw [HCT.out, HTC.out]; rfl
                        go_quiet (fail)
                        obtain ⟨W7, hW7⟩ : ∃ W, W = W6.drewN nq := ⟨_, rfl⟩
                        have hbW7 : Below V.heap.size V W7 := by rw [hW7]; exact HBW6.out.trans ((below_drewN _ _).mono HBW6.out.size)
                        rw [← hW7]
                        have HBW7 := Lib.hid hbW7
                        clear hW7 c1' o0' o1' o2' o3' o4' m0' m1' m2' m3' m4'
                        clear hbW7
                        have hown6 := ownG_below HOW.out HBW7.out
                        have hsz6 : w.heap.size ≤ W7.heap.size := Nat.le_trans HB.out.size HBW7.out.size
                        have HOWN6 := Lib.hid hown6
                        clear hown6
                        obtain ⟨i0, hi, hz0, hz1, hz2⟩ := info_parts info3
                        go_wp2_with (at_builtin; refine wpList_append_lies _ rfl (.tmp 182) (.tmp 184) 35 rfl w.heap.size 3 i0 _ 1 8 Tryz.underlying35 hi hz0 hz1 hz2 rfl (by decide) u7 (cfl L new.fi j).length (intsOf (cfl L new.fi j)) rfl (World.ownsRow.alloc HOWN6.out _) ⟨W7.heap.size, 0, none⟩ 1 1 [.int .i64 j] rfl rfl (World.news_of_block (heap_alloc_new W7 _)) (by simp [Value.oneCell']) (by decide) (by unfold maxLen; omega) (by omega) (by simp; omega) _ rfl ?_; intro g9 cap9 w9 hown9 hg9 hat hlt9; refine Hid.out ?_)
                        refine Lib.hid ?_
                        have harm := HYES.out hcf W7 g9 cap9 w9 HBW7.out hown9 hg9
                        have HARM := Lib.hid harm
                        clear harm hown9 hg9
                        go_wp2_with fail
                        go_roundg (L.length - (j + 1))
                        case measure => omega
                        case rel => exact HARM.out
      · have hcf : confl o.fi new.fi = false := by
          unfold confl fAnd
          rw [hfo, hfn, decide_eq_false hff]
          rfl
        go_upto_region 6 with fail
        go_quiet (fail)
        go_wp2_with fail
        go_roundg (L.length - (j + 1))
        case measure => omega
        case rel => exact HNO.out hcf _ (below_drewN _ _)
    · obtain rfl : j = L.length := by omega
      have HB := Lib.hid hb
      have HOW := Lib.hid hown
      clear hb hown
      go_wp2_with fail
      exact HEX.out _ _ _ _ _ _ _ _ _ _ _ _ _ _ _ _ _ _ _ _ _ _ _ _ _ _ _ _ _ _ _ _ _ _ _ _ _ _ _ _ _ _ _ _ _ _ _ _ _ _ _ _ _ _ _ _ _ _ _ _ _ _ _ _ _ _ _ _ _ _ _ _ _ _ _ _ _ _ _ _ _ _ _ _ _ _ _ _ _ _ _ _ _ _ _ _ _ _ _ _ _ _ _ _ _ _ _ _ _ _ _ _ _ _ _ _ _ _ _ _ _ _ _ _ _ _ _ _ _ _ _ _ _ _ _ _ _ _ _ _ _ _ _ _ _ _ _ _ _ _ _ _ _ _ _ _ _ _ _ _ _ _ _ _ _ HB.out HOW.out HNIL.out
end Go.Proofs.YtnmgocbmofbppaaGreatDoor
