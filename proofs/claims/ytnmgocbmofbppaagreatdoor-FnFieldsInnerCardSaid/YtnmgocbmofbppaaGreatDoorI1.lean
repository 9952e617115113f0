/- FnFieldsInner: its loop. -/
import Derived.Test.YtnmgocbmofbppaaGreatDoorA29
import Derived.Test.YtnmgocbmofbppaaGreatDoorA35
import Derived.Deep.RegionHeldLaw
import Derived.Deep.RegionHeld3

set_option linter.unusedVariables false
set_option linter.unusedSimpArgs false

namespace Go.Proofs.YtnmgocbmofbppaaGreatDoor
open Go.RowKit

noncomputable def body3 : Code := ((loopsOf (Tryz.f3.body.getD .skip))[0]?).getD .skip
set_option maxHeartbeats 16000000 in
set_option maxRecDepth 1000000 in
theorem inner_loop {W8 : World} {A3 A4 : Option Addr} {n3 cap3 cap4 : Nat} (hn1 : n3 ≤ 1000000) (hrows : ∀ j, j < n3 → ∃ (x : Fx) (ga gb : Nat) (va vb : List Value), x.idx ≠ [] ∧ A3 = some ⟨ga, 0, none⟩ ∧ A4 = some ⟨gb, 0, none⟩ ∧ InfV W8 va x ∧ InfV W8 vb ⟨x.fi, 0 :: x.idx⟩ ∧ (∀ (k : Nat) (u : Value), va[k]? = some u → W8.cell? ⟨ga, j * 6 + k, none⟩ = some u) ∧ ∀ (k : Nat) (u : Value), vb[k]? = some u → W8.cell? ⟨gb, j * 6 + k, none⟩ = some u)
    (R : Ending → World → Prop) (K : Act → World → Prop) {c0 c1 c2 c3 c4 c5 c6 c7 c8 c10 c11 c12 c13 c14 c16 c17 c18 c19 c20 c22 c23 c24 c25 c26 c27 c28 c29 c30 c31 c32 c33 c34 c35 c36 c37 c38 c39 c40 c41 c42 c43 c44 c45 c46 c47 c48 c49 c50 c51 c52 c53 c54 c55 c56 c57 c58 c59 c60 c61 c62 c63 c64 c65 c66 c67 c68 c69 c70 c71 c72 c73 c74 c75 c76 c77 c78 c79 c80 c81 c82 c83 c84 c85 c86 c87 c88 c89 c90 c91 c92 c93 c94 c95 c96 c97 c98 c99 c100 c101 c102 c103 c104 c105 c106 c107 c108 c109 c110 c111 c112 c113 c114 c115 c116 c117 c118 c119 c120 c121 c122 c123 c124 c125 c126 c127 c128 c129 c130 c131 c132 c133 c134 c135 c136 c137 c138 c139 c140 c141 c142 c143 c144 c145 c146 c147 c148 c149 c150 c151 c152 c153 c154 c155 c156 c157 c158 c159 c160 c161 c162 c163 c164 c165 c166 c167 c168 c169 c170 c171 c172 c173 c174 c175 c176 c177 c178 c179 c180 c181 c182 c183 c184 c185 c186 c187 c188 c189 c190 c191 c192 c193 c194 c195 c196 c197 c198 c199 c200 : Value}
    (hexit : ∀ (u6 u22 u125 u126 u127 u128 u129 u130 u131 u132 u133 u134 u135 u136 u137 u138 u139 u140 u141 u142 u143 u144 u145 u146 u147 u148 u149 u150 u151 u152 u153 u154 u155 u156 u157 u158 u159 u160 u161 u162 u163 u164 u165 u166 u167 u168 u169 u170 u171 u172 u173 u174 u175 u176 u177 u178 u179 u180 u181 u182 u183 u184 u185 u186 u187 u188 u189 u190 u191 u192 u193 u194 u195 u196 u197 u198 u199 : Value) (V : World), Below W8.heap.size W8 V → K ⟨List.toArray (c0 :: c1 :: c2 :: c3 :: c4 :: c5 :: u6 :: c7 :: c8 :: (Value.slice A3 n3 cap3) :: c10 :: c11 :: c12 :: c13 :: c14 :: (Value.slice A4 n3 cap4) :: c16 :: c17 :: c18 :: c19 :: c20 :: (Value.int .i64 (n3 : Int)) :: u22 :: c23 :: c24 :: c25 :: c26 :: c27 :: c28 :: c29 :: c30 :: c31 :: c32 :: c33 :: c34 :: c35 :: c36 :: c37 :: c38 :: c39 :: c40 :: c41 :: c42 :: c43 :: c44 :: c45 :: c46 :: c47 :: c48 :: c49 :: c50 :: c51 :: c52 :: c53 :: c54 :: c55 :: c56 :: c57 :: c58 :: c59 :: c60 :: c61 :: c62 :: c63 :: c64 :: c65 :: c66 :: c67 :: c68 :: c69 :: c70 :: c71 :: c72 :: c73 :: c74 :: c75 :: c76 :: c77 :: c78 :: c79 :: c80 :: c81 :: c82 :: c83 :: c84 :: c85 :: c86 :: c87 :: c88 :: c89 :: c90 :: c91 :: c92 :: c93 :: c94 :: c95 :: c96 :: c97 :: c98 :: c99 :: c100 :: c101 :: c102 :: c103 :: c104 :: c105 :: c106 :: c107 :: c108 :: c109 :: c110 :: c111 :: c112 :: c113 :: c114 :: c115 :: c116 :: c117 :: c118 :: c119 :: c120 :: c121 :: c122 :: c123 :: c124 :: u125 :: u126 :: u127 :: u128 :: u129 :: u130 :: u131 :: u132 :: u133 :: u134 :: u135 :: u136 :: u137 :: u138 :: u139 :: u140 :: u141 :: u142 :: u143 :: u144 :: u145 :: u146 :: u147 :: u148 :: u149 :: u150 :: u151 :: u152 :: u153 :: u154 :: u155 :: u156 :: u157 :: u158 :: u159 :: u160 :: u161 :: u162 :: u163 :: u164 :: u165 :: u166 :: u167 :: u168 :: u169 :: u170 :: u171 :: u172 :: u173 :: u174 :: u175 :: u176 :: u177 :: u178 :: u179 :: u180 :: u181 :: u182 :: u183 :: u184 :: u185 :: u186 :: u187 :: u188 :: u189 :: u190 :: u191 :: u192 :: u193 :: u194 :: u195 :: u196 :: u197 :: u198 :: u199 :: c200 :: []), []⟩ V) :
    Code.wp Tryz.prog (Code.loop body3) (Exit.inBlock 0 (Exit.then K (bodyPost Tryz.prog Tryz.f3 R))) ⟨List.toArray (c0 :: c1 :: c2 :: c3 :: c4 :: c5 :: c6 :: c7 :: c8 :: (Value.slice A3 n3 cap3) :: c10 :: c11 :: c12 :: c13 :: c14 :: (Value.slice A4 n3 cap4) :: c16 :: c17 :: c18 :: c19 :: c20 :: (Value.int .i64 0) :: c22 :: c23 :: c24 :: c25 :: c26 :: c27 :: c28 :: c29 :: c30 :: c31 :: c32 :: c33 :: c34 :: c35 :: c36 :: c37 :: c38 :: c39 :: c40 :: c41 :: c42 :: c43 :: c44 :: c45 :: c46 :: c47 :: c48 :: c49 :: c50 :: c51 :: c52 :: c53 :: c54 :: c55 :: c56 :: c57 :: c58 :: c59 :: c60 :: c61 :: c62 :: c63 :: c64 :: c65 :: c66 :: c67 :: c68 :: c69 :: c70 :: c71 :: c72 :: c73 :: c74 :: c75 :: c76 :: c77 :: c78 :: c79 :: c80 :: c81 :: c82 :: c83 :: c84 :: c85 :: c86 :: c87 :: c88 :: c89 :: c90 :: c91 :: c92 :: c93 :: c94 :: c95 :: c96 :: c97 :: c98 :: c99 :: c100 :: c101 :: c102 :: c103 :: c104 :: c105 :: c106 :: c107 :: c108 :: c109 :: c110 :: c111 :: c112 :: c113 :: c114 :: c115 :: c116 :: c117 :: c118 :: c119 :: c120 :: c121 :: c122 :: c123 :: c124 :: c125 :: c126 :: c127 :: c128 :: c129 :: c130 :: c131 :: c132 :: c133 :: c134 :: c135 :: c136 :: c137 :: c138 :: c139 :: c140 :: c141 :: c142 :: c143 :: c144 :: c145 :: c146 :: c147 :: c148 :: c149 :: c150 :: c151 :: c152 :: c153 :: c154 :: c155 :: c156 :: c157 :: c158 :: c159 :: c160 :: c161 :: c162 :: c163 :: c164 :: c165 :: c166 :: c167 :: c168 :: c169 :: c170 :: c171 :: c172 :: c173 :: c174 :: c175 :: c176 :: c177 :: c178 :: c179 :: c180 :: c181 :: c182 :: c183 :: c184 :: c185 :: c186 :: c187 :: c188 :: c189 :: c190 :: c191 :: c192 :: c193 :: c194 :: c195 :: c196 :: c197 :: c198 :: c199 :: c200 :: []), []⟩ W8 := by
  have HEX := Lib.hid hexit
  have HRWS := Lib.hid hrows
  clear hexit hrows
  conv => arg 2; arg 1; whnf
  go_loopg [21] n3 (fun gk s21 wx => ∃ j : Nat, s21 = .int .i64 j ∧ j ≤ n3 ∧ gk = n3 - j ∧ Below W8.heap.size W8 wx)
  case atStart => exact ⟨0, rfl, Nat.zero_le _, rfl, Below.refl _ _⟩
  case round =>
    obtain ⟨j, rfl, hj, rfl, hb⟩ := hrel
    obtain ⟨V, hV⟩ : ∃ V, V = wr := ⟨_, rfl⟩
    subst hV
    have HBV := Lib.hid hb
    clear hb
    by_cases hlt : j < n3
    · obtain ⟨x, ga, gb, va, vb, hne, rfl, rfl, hva, hvb, hca, hcb⟩ := HRWS.out j hlt
      obtain ⟨_, _, rfl, ⟨Ap, pcp, rfl, hpa⟩, ⟨ib, ic, rfl, hia⟩, hil, hpl⟩ := hva
      obtain ⟨_, _, rfl, ⟨Bp, qcp, rfl, hpb⟩, ⟨jb, jc, rfl, hib⟩, _, _⟩ := hvb
      have hlb : (⟨x.fi, 0 :: x.idx⟩ : Fx).idx.length = x.idx.length + 1 := rfl
      obtain ⟨md, hmd⟩ : ∃ md, modeI (bits .and .i64 x.fi.flags 127) = md := ⟨_, rfl⟩
      obtain ⟨om, hom⟩ : ∃ om, (bits .and .i64 x.fi.flags 128 != 0) = om := ⟨_, rfl⟩
      simp only [hmd, hom, hlb] at hca hcb
      have hga : ga < W8.heap.size := lt_cell (hca 0 _ rfl)
      have hgb : gb < W8.heap.size := lt_cell (hcb 0 _ rfl)
      have hkV : ∀ b, b < W8.heap.size → V.heap[b]? = W8.heap[b]? := HBV.out.block
      have hsV := HBV.out.size
      have e0 : V.cell? ⟨ga, j * 6, none⟩ = some (.string x.fi.xmlns) := (World.cell?_of_block (hkV ga hga)).trans (hca 0 _ rfl)
      have e1 : V.cell? ⟨ga, j * 6 + 1, none⟩ = some (.string x.fi.name) := (World.cell?_of_block (hkV ga hga)).trans (hca 1 _ rfl)
      have e2 : V.cell? ⟨ga, j * 6 + 2, none⟩ = some (.slice Ap x.fi.parents.length pcp) := (World.cell?_of_block (hkV ga hga)).trans (hca 2 _ rfl)
      have e3 : V.cell? ⟨ga, j * 6 + 3, none⟩ = some (.int .i64 md) := (World.cell?_of_block (hkV ga hga)).trans (hca 3 _ rfl)
      have e4 : V.cell? ⟨ga, j * 6 + 4, none⟩ = some (.bool om) := (World.cell?_of_block (hkV ga hga)).trans (hca 4 _ rfl)
      have e5 : V.cell? ⟨ga, j * 6 + 5, none⟩ = some (.slice (some ⟨ib, 0, none⟩) x.idx.length ic) := (World.cell?_of_block (hkV ga hga)).trans (hca 5 _ rfl)
      have hj0 : (0 : Int) ≤ (j : Int) := by omega
      have hj1 : (j : Int) < (n3 : Int) := by omega
      have hipos : 0 < x.idx.length := List.length_pos_iff.2 hne
      obtain ⟨Oa, hOa⟩ : ∃ Oa, Oa = Obj.cells #[.string x.fi.xmlns, .string x.fi.name, .slice Ap x.fi.parents.length pcp, .int .i64 md, .bool om, .slice (some ⟨ib, 0, none⟩) x.idx.length ic] 37 := ⟨_, rfl⟩
      have hown0 : ((V.alloc Oa).alloc (.cells #[.int .i64 0] 3)).ownsRow V.heap.size 3 1 (.slice (some ⟨V.heap.size + 1, 0, none⟩) 1 1) 1 [.int .i64 0] := own_one V Oa 0
      have hnews : ∀ k u, (x.idx.map fun (k : Nat) => Value.int .i64 (k : Int))[k]? = some u → ((V.alloc Oa).alloc (.cells #[.int .i64 0] 3)).cell? ((⟨ib, 0, none⟩ : Addr).add k) = some u := fun k u e => by
        rw [addr_add0]
        rw [List.getElem?_map] at e
        cases hxk : x.idx[k]? with
        | none => rw [hxk] at e; cases e
        | some z =>
          rw [hxk] at e
          obtain rfl := Option.some.inj e
          have h1 := hia k z hxk
          have hl1 : ib < W8.heap.size := lt_cell h1
          exact (World.cell?_of_block ((Below.heap_alloc _ _ ib (by simp; omega)).trans ((Below.heap_alloc V _ ib (by omega)).trans (hkV ib hl1)))).trans h1
      subst hOa
      have HOWN0 := Lib.hid hown0
      have HNEWS := Lib.hid hnews
      have HCB := Lib.hid hcb
      have HPA := Lib.hid hpa
      have HPB := Lib.hid hpb
      have HIB := Lib.hid hib
      clear hown0 hnews hca hcb hpa hpb hia hib hmd hom hlb hkV
      obtain ⟨i0, hi0, hz0, hz1, hz2⟩ := info_parts info3
      go_wp2_with (at_builtin; refine wpList_append_lies _ rfl (.tmp 135) (.tmp 137) 35 rfl V.heap.size 3 i0 _ 1 8 Tryz.underlying35 hi0 hz0 hz1 hz2 rfl (by decide) (.slice (some ⟨V.heap.size + 1, 0, none⟩) 1 1) 1 [.int .i64 0] rfl HOWN0.out ⟨ib, 0, none⟩ x.idx.length ic (x.idx.map fun (k : Nat) => Value.int .i64 (k : Int)) rfl (by simp) HNEWS.out (by simp [Value.oneCell']) hipos (by unfold maxLen; omega) (by omega) (by simp; omega) _ rfl ?_; intro g9 cap9 w9 hown9 hg9 hat hlt9; refine Hid.out ?_)
      have hs9 := hg9.size
      simp only [World.size_alloc] at hs9
      have hg9b : V.heap.size < g9 := by
        rcases hat with e | e
        · simp [Value.ownBlock] at e
          omega
        · simp at e
          omega
      have hB9 : w9.heap[V.heap.size]? = some (.cells #[.string x.fi.xmlns, .string x.fi.name, .slice Ap x.fi.parents.length pcp, .int .i64 md, .bool om, .slice (some ⟨ib, 0, none⟩) x.idx.length ic] 37) :=
        (hg9.block V.heap.size (by simp; omega) (fun e => by simp [Value.ownBlock] at e)).trans ((Below.heap_alloc _ _ V.heap.size (by simp)).trans (heap_alloc_new V _))
      have hb9 : Below V.heap.size V w9 := ⟨hg9.os, hg9.tape, hg9.output, by omega, fun b hb => (hg9.block b (by simp; omega) (fun e => by simp [Value.ownBlock] at e; omega)).trans ((Below.heap_alloc _ _ b (by simp; omega)).trans (Below.heap_alloc V _ b hb))⟩
      have hidx := idx_new (i := 0) (idx := x.idx) (by simpa using hown9)
      obtain ⟨r0, r1, r2, r3, r4, r5, rf⟩ := cells6 hB9
      have HB9 := Lib.hid hb9
      have HBB9 := Lib.hid hB9
      have HIDX := Lib.hid hidx
      clear hown9 hg9 hat hb9 hB9 hidx HOWN0 HNEWS e0 e1 e2 e3 e4 e5
      refine Lib.hid ?_
      go_upto_region 20 with fail
      obtain ⟨W10, hW10⟩ : ∃ W10, W10 = w9.setCell ⟨V.heap.size, 5, none⟩ (.slice (some ⟨g9, 0, none⟩) (1 + x.idx.length) cap9) := ⟨_, rfl⟩
      have hB10 : W10.heap[V.heap.size]? = some (.cells #[.string x.fi.xmlns, .string x.fi.name, .slice Ap x.fi.parents.length pcp, .int .i64 md, .bool om, .slice (some ⟨g9, 0, none⟩) (1 + x.idx.length) cap9] 37) := by
        rw [hW10]
        refine (heap_set_here HBB9.out).trans ?_
        simp
      have hk10 : ∀ b, b ≠ V.heap.size → W10.heap[b]? = w9.heap[b]? := fun b hb => by rw [hW10]; exact Below.heap_setCell _ _ _ b hb
      have hs10 : W10.heap.size = w9.heap.size := by rw [hW10]; simp [World.setCell]
      have hb10 : Below V.heap.size V W10 := by rw [hW10]; exact HB9.out.setCell (Nat.le_refl _) _
      rw [← hW10]
      clear hW10
      have sAll : ∀ w', Below W10.heap.size W10 w' → w'.cell? ⟨V.heap.size, 0, none⟩ = some (.string x.fi.xmlns) ∧ w'.cell? ⟨V.heap.size, 1, none⟩ = some (.string x.fi.name) ∧ w'.cell? ⟨V.heap.size, 2, none⟩ = some (.slice Ap x.fi.parents.length pcp) ∧ w'.cell? ⟨V.heap.size, 3, none⟩ = some (.int .i64 md) ∧ w'.cell? ⟨V.heap.size, 4, none⟩ = some (.bool om) ∧ w'.cell? ⟨V.heap.size, 5, none⟩ = some (.slice (some ⟨g9, 0, none⟩) (1 + x.idx.length) cap9) ∧ w'.cell? ⟨gb, j * 6, none⟩ = some (.string x.fi.xmlns) ∧ w'.cell? ⟨gb, j * 6 + 1, none⟩ = some (.string x.fi.name) ∧ w'.cell? ⟨gb, j * 6 + 2, none⟩ = some (.slice Bp x.fi.parents.length qcp) ∧ w'.cell? ⟨gb, j * 6 + 3, none⟩ = some (.int .i64 md) ∧ w'.cell? ⟨gb, j * 6 + 4, none⟩ = some (.bool om) ∧ w'.cell? ⟨gb, j * 6 + 5, none⟩ = some (.slice (some ⟨jb, 0, none⟩) (x.idx.length + 1) jc) := fun w' hb => by
        have h1 := (hb.block V.heap.size (by omega)).trans hB10
        have h2 : w'.heap[gb]? = W8.heap[gb]? := (hb.block gb (by omega)).trans ((hb10.block gb (by omega)).trans (HBV.out.block gb hgb))
        obtain ⟨t0, t1, t2, t3, t4, t5, _⟩ := cells6 h1
        exact ⟨t0, t1, t2, t3, t4, t5, (World.cell?_of_block h2).trans (HCB.out 0 _ rfl), (World.cell?_of_block h2).trans (HCB.out 1 _ rfl), (World.cell?_of_block h2).trans (HCB.out 2 _ rfl), (World.cell?_of_block h2).trans (HCB.out 3 _ rfl), (World.cell?_of_block h2).trans (HCB.out 4 _ rfl), (World.cell?_of_block h2).trans (HCB.out 5 _ rfl)⟩
      have s0 := sAll W10.drew ((Below.refl _ _).drew)
      have hk8 : ∀ b, b < W8.heap.size → ∀ w', Below W10.heap.size W10 w' → w'.heap[b]? = W8.heap[b]? := fun b hb w' h => (h.block b (by omega)).trans ((hb10.block b (by omega)).trans (HBV.out.block b hb))
      have hc10 : Calls Tryz.prog 10 #[.slice (some ⟨g9, 0, none⟩) (1 + x.idx.length) cap9, .slice (some ⟨jb, 0, none⟩) (x.idx.length + 1) jc] W10.drew (SameP ((0 :: x.idx) = 0 :: x.idx) W10.drew) := by
        refine sameIndex_any _ _ (0 :: x.idx) (0 :: x.idx) W10.drew ⟨g9, cap9, by rw [show 1 + x.idx.length = (0 :: x.idx).length by simp; omega], fun j y e => ?_⟩ ⟨jb, jc, rfl, fun j y e => ?_⟩ (by simp; omega) (by simp; omega)
        · exact (World.cell?_of_block (hk10 g9 (by omega))).trans (HIDX.out j y e)
        · have h1 := HIB.out j y e
          exact (World.cell?_of_block (hk8 jb (lt_cell h1) W10.drew ((Below.refl _ _).drew))).trans h1
      have hc11 : ∀ w', Below W10.heap.size W10 w' → Calls Tryz.prog 11 #[.slice Ap x.fi.parents.length pcp, .slice Bp x.fi.parents.length qcp] w' (SameP (x.fi.parents = x.fi.parents) w') := fun w' h => by
        refine sameWords_any _ _ x.fi.parents x.fi.parents w' ⟨Ap, pcp, rfl, fun j y e => ?_⟩ ⟨Bp, qcp, rfl, fun j y e => ?_⟩ (by omega) (by omega)
        · obtain ⟨g, q1, q2⟩ := HPA.out j y e
          exact ⟨g, q1, (World.cell?_of_block (hk8 g (lt_cell q2) w' h)).trans q2⟩
        · obtain ⟨g, q1, q2⟩ := HPB.out j y e
          exact ⟨g, q1, (World.cell?_of_block (hk8 g (lt_cell q2) w' h)).trans q2⟩
      have SALL := Lib.hid sAll
      have HC10 := Lib.hid hc10
      have HC11 := Lib.hid hc11
      have HB10 := Lib.hid hb10
      clear sAll hc10 hc11 hk8 hb10 hB10 hk10 r0 r1 r2 r3 r4 r5 rf
      go_region_held3 (fun w' => w'.cell? ⟨V.heap.size, 0, none⟩ = some (.string x.fi.xmlns) ∧ w'.cell? ⟨V.heap.size, 1, none⟩ = some (.string x.fi.name) ∧ w'.cell? ⟨V.heap.size, 2, none⟩ = some (.slice Ap x.fi.parents.length pcp) ∧ w'.cell? ⟨V.heap.size, 3, none⟩ = some (.int .i64 md) ∧ w'.cell? ⟨V.heap.size, 4, none⟩ = some (.bool om) ∧ w'.cell? ⟨V.heap.size, 5, none⟩ = some (.slice (some ⟨g9, 0, none⟩) (1 + x.idx.length) cap9) ∧ w'.cell? ⟨gb, j * 6, none⟩ = some (.string x.fi.xmlns) ∧ w'.cell? ⟨gb, j * 6 + 1, none⟩ = some (.string x.fi.name) ∧ w'.cell? ⟨gb, j * 6 + 2, none⟩ = some (.slice Bp x.fi.parents.length qcp) ∧ w'.cell? ⟨gb, j * 6 + 3, none⟩ = some (.int .i64 md) ∧ w'.cell? ⟨gb, j * 6 + 4, none⟩ = some (.bool om) ∧ w'.cell? ⟨gb, j * 6 + 5, none⟩ = some (.slice (some ⟨jb, 0, none⟩) (x.idx.length + 1) jc))
        (first | with_reducible exact s2 | with_reducible exact s1 | with_reducible exact s0)
        (first
          | (go_at_call 11; refine (HC11.out w11 hb11).mono ?_; rintro e w12 ⟨r, rfl, hb12, hr12⟩; obtain rfl := hr12 (by trivial); have hb12' := hb11.trans (hb12.mono hb11.size); have s2 := SALL.out w12 hb12')
          | (go_at_call 10; refine HC10.out.mono ?_; rintro e w11 ⟨r, rfl, hb11, hr11⟩; obtain rfl := hr11 (by trivial); have hb11 := below_of_drew hb11; have s1 := SALL.out w11 hb11))
      all_goals
        have hbV9 := HB10.out.trans (hb12'.mono HB10.out.size)
        have HBV9 := Lib.hid hbV9
        clear hbV9 hb12' hb12 hb11 s0 s1 s2
        go_wp2_with fail
        go_roundg (n3 - (j + 1))
        case measure => omega
        case rel => exact ⟨j + 1, by go_num, by omega, rfl, HBV.out.trans (HBV9.out.mono HBV.out.size)⟩
    · have hje : j = n3 := by omega
      subst hje
      go_wp2_with fail
      exact HEX.out _ _ _ _ _ _ _ _ _ _ _ _ _ _ _ _ _ _ _ _ _ _ _ _ _ _ _ _ _ _ _ _ _ _ _ _ _ _ _ _ _ _ _ _ _ _ _ _ _ _ _ _ _ _ _ _ _ _ _ _ _ _ _ _ _ _ _ _ _ _ _ _ _ _ _ _ _ _ HBV.out
end Go.Proofs.YtnmgocbmofbppaaGreatDoor
