/- FnFieldsTurned: the loop within its last loop. -/
import Derived.Test.YtnmgocbmofbppaaGreatDoorA35
import Derived.Test.YtnmgocbmofbppaaGreatDoorL4
import Derived.Test.YtnmgocbmofbppaaGreatDoorA29
import Derived.Deep.RegionHeldLaw
import Derived.Deep.RegionHeld3

set_option linter.unusedVariables false
set_option linter.unusedSimpArgs false

namespace Go.Proofs.YtnmgocbmofbppaaGreatDoor
open Go.RowKit

noncomputable def body4c : Code := ((loopsOf body4b)[0]?).getD .skip
/-- The copy of a field's rules, with another way. -/
theorem box_set {V : World} {a0 a1 a2 a3 a4 : Value} (m : Int) (W10 : World) (h : W10 = (V.alloc (.cells #[a0, a1, a2, a3, a4, .slice (some ⟨V.heap.size + 1, 0, none⟩) 1 1] 37)).alloc (.cells #[.int .i64 m] 3)) :
    Below V.heap.size V W10 ∧ V.heap.size + 2 ≤ W10.heap.size ∧ W10.heap[V.heap.size]? = some (.cells #[a0, a1, a2, a3, a4, .slice (some ⟨V.heap.size + 1, 0, none⟩) 1 1] 37) ∧ W10.cell? ⟨V.heap.size + 1, 0, none⟩ = some (.int .i64 m) := by
  subst h
  refine ⟨((Below.refl _ _).alloc (Nat.le_refl _) _).alloc (by simp) _, by simp, (Below.heap_alloc _ _ _ (by simp)).trans (heap_alloc_new V _), ?_⟩
  simp [go_sem]
set_option maxHeartbeats 16000000 in
set_option maxRecDepth 1000000 in
theorem turn_in {W V0 : World} {fsl n : Nat} {D : Option Addr} {cd : Nat} {A3 A4 : Option Addr} {cap3 cap4 : Nat} {ta tb : List Fx} (hla : ta.length ≤ 1000000) (hlb : tb.length ≤ 1000000) (hra : RowsI W A3 ta) (hrb : RowsI W A4 tb) (hia : ∀ x ∈ ta, ∃ i, i < fsl ∧ x.idx = [i]) (hib : ∀ x ∈ tb, ∃ i, i < fsl ∧ x.idx = [i])
    (hmost : fsl ≤ 12) (hn : n < fsl) {k : Nat} {x : Fx} (hx : ta[k]? = some x) (hWV : Below W.heap.size W V0)
    (R : Ending → World → Prop) (K Ka Kb Kc : Act → World → Prop) {c0 c2 c3 c4 c5 c6 c7 c8 c10 c12 c13 c14 c15 c16 c18 c19 c20 c21 c22 c26 c27 c28 c29 c30 c31 c32 c33 c34 c35 c36 c37 c38 c39 c40 c41 c42 c43 c44 c45 c46 c47 c48 c49 c50 c51 c52 c53 c54 c55 c56 c57 c58 c59 c60 c61 c62 c63 c64 c65 c66 c67 c68 c69 c70 c71 c72 c73 c74 c75 c76 c77 c78 c79 c80 c81 c82 c83 c84 c85 c86 c87 c88 c89 c90 c91 c92 c93 c94 c95 c96 c97 c98 c99 c100 c101 c102 c103 c104 c105 c106 c107 c108 c109 c110 c111 c112 c113 c114 c115 c116 c117 c118 c119 c120 c121 c122 c123 c124 c125 c126 c127 c128 c129 c130 c131 c132 c133 c134 c135 c136 c137 c138 c139 c140 c141 c142 c143 c144 c145 c146 c147 c148 c149 c150 c151 c152 c153 c154 c155 c156 c157 c158 c159 c160 c161 c162 c163 c164 c165 c166 c167 c168 c169 c170 c171 c172 c173 c174 c175 c176 c177 c178 c179 c180 c181 c182 c183 c184 c185 c186 c187 c188 c189 c190 c191 c192 c193 c194 c195 c196 c197 c198 c199 c200 c201 c202 c203 c204 c205 c206 c207 c208 c209 c210 c211 c212 c213 c214 c215 c216 c217 c218 c219 c220 c221 c222 c223 c224 c225 c226 c227 c228 c229 c230 c231 c232 c233 c234 c235 c236 c237 c238 c239 c240 c241 c242 c243 c244 c245 c246 c247 c248 c249 c250 c251 c252 : Value}
    (hexit : ∀ (u26 u161 u162 u163 u164 u165 u166 u167 u168 u169 u170 u171 u172 u173 u174 u175 u176 u177 u178 u179 u180 u181 u182 u183 u184 u185 u186 u187 u188 u189 u190 u191 u192 u193 u194 u195 u196 u197 u198 u199 u200 u201 u202 u203 u204 u205 u206 u207 u208 u209 u210 u211 u212 u213 u214 u215 u216 u217 u218 u219 u220 u221 u222 u223 u224 u225 u226 u227 u228 u229 u230 u231 u232 u233 u234 u235 u236 u237 u238 u239 u240 u241 u242 u243 u244 u245 u246 u247 u248 u249 : Value) (V : World) (met : Bool), Below V0.heap.size V0 V → ((∃ y ∈ tb, hitF n fsl x y) → met = true) → Kc ⟨List.toArray (c0 :: (Value.slice D fsl cd) :: c2 :: c3 :: c4 :: c5 :: c6 :: c7 :: c8 :: (Value.int .i64 (n : Int)) :: c10 :: (Value.slice A3 ta.length cap3) :: c12 :: c13 :: c14 :: c15 :: c16 :: (Value.slice A4 tb.length cap4) :: c18 :: c19 :: c20 :: c21 :: c22 :: (Value.int .i64 (k : Int)) :: (Value.bool met) :: (Value.int .i64 tb.length) :: u26 :: c27 :: c28 :: c29 :: c30 :: c31 :: c32 :: c33 :: c34 :: c35 :: c36 :: c37 :: c38 :: c39 :: c40 :: c41 :: c42 :: c43 :: c44 :: c45 :: c46 :: c47 :: c48 :: c49 :: c50 :: c51 :: c52 :: c53 :: c54 :: c55 :: c56 :: c57 :: c58 :: c59 :: c60 :: c61 :: c62 :: c63 :: c64 :: c65 :: c66 :: c67 :: c68 :: c69 :: c70 :: c71 :: c72 :: c73 :: c74 :: c75 :: c76 :: c77 :: c78 :: c79 :: c80 :: c81 :: c82 :: c83 :: c84 :: c85 :: c86 :: c87 :: c88 :: c89 :: c90 :: c91 :: c92 :: c93 :: c94 :: c95 :: c96 :: c97 :: c98 :: c99 :: c100 :: c101 :: c102 :: c103 :: c104 :: c105 :: c106 :: c107 :: c108 :: c109 :: c110 :: c111 :: c112 :: c113 :: c114 :: c115 :: c116 :: c117 :: c118 :: c119 :: c120 :: c121 :: c122 :: c123 :: c124 :: c125 :: c126 :: c127 :: c128 :: c129 :: c130 :: c131 :: c132 :: c133 :: c134 :: c135 :: c136 :: c137 :: c138 :: c139 :: c140 :: c141 :: c142 :: c143 :: c144 :: c145 :: c146 :: c147 :: c148 :: c149 :: c150 :: c151 :: c152 :: c153 :: c154 :: c155 :: c156 :: c157 :: c158 :: c159 :: c160 :: u161 :: u162 :: u163 :: u164 :: u165 :: u166 :: u167 :: u168 :: u169 :: u170 :: u171 :: u172 :: u173 :: u174 :: u175 :: u176 :: u177 :: u178 :: u179 :: u180 :: u181 :: u182 :: u183 :: u184 :: u185 :: u186 :: u187 :: u188 :: u189 :: u190 :: u191 :: u192 :: u193 :: u194 :: u195 :: u196 :: u197 :: u198 :: u199 :: u200 :: u201 :: u202 :: u203 :: u204 :: u205 :: u206 :: u207 :: u208 :: u209 :: u210 :: u211 :: u212 :: u213 :: u214 :: u215 :: u216 :: u217 :: u218 :: u219 :: u220 :: u221 :: u222 :: u223 :: u224 :: u225 :: u226 :: u227 :: u228 :: u229 :: u230 :: u231 :: u232 :: u233 :: u234 :: u235 :: u236 :: u237 :: u238 :: u239 :: u240 :: u241 :: u242 :: u243 :: u244 :: u245 :: u246 :: u247 :: u248 :: u249 :: c250 :: c251 :: c252 :: []), []⟩ V) :
    Code.wp Tryz.prog (Code.loop body4c) (Exit.inBlock 4 (Exit.then Kc (Exit.inBlock 3 (Exit.then Kb (Exit.then Ka (Exit.inBlock 2 (Exit.then K (bodyPost Tryz.prog Tryz.f4 R)))))))) ⟨List.toArray (c0 :: (Value.slice D fsl cd) :: c2 :: c3 :: c4 :: c5 :: c6 :: c7 :: c8 :: (Value.int .i64 (n : Int)) :: c10 :: (Value.slice A3 ta.length cap3) :: c12 :: c13 :: c14 :: c15 :: c16 :: (Value.slice A4 tb.length cap4) :: c18 :: c19 :: c20 :: c21 :: c22 :: (Value.int .i64 (k : Int)) :: (Value.bool false) :: (Value.int .i64 0) :: c26 :: c27 :: c28 :: c29 :: c30 :: c31 :: c32 :: c33 :: c34 :: c35 :: c36 :: c37 :: c38 :: c39 :: c40 :: c41 :: c42 :: c43 :: c44 :: c45 :: c46 :: c47 :: c48 :: c49 :: c50 :: c51 :: c52 :: c53 :: c54 :: c55 :: c56 :: c57 :: c58 :: c59 :: c60 :: c61 :: c62 :: c63 :: c64 :: c65 :: c66 :: c67 :: c68 :: c69 :: c70 :: c71 :: c72 :: c73 :: c74 :: c75 :: c76 :: c77 :: c78 :: c79 :: c80 :: c81 :: c82 :: c83 :: c84 :: c85 :: c86 :: c87 :: c88 :: c89 :: c90 :: c91 :: c92 :: c93 :: c94 :: c95 :: c96 :: c97 :: c98 :: c99 :: c100 :: c101 :: c102 :: c103 :: c104 :: c105 :: c106 :: c107 :: c108 :: c109 :: c110 :: c111 :: c112 :: c113 :: c114 :: c115 :: c116 :: c117 :: c118 :: c119 :: c120 :: c121 :: c122 :: c123 :: c124 :: c125 :: c126 :: c127 :: c128 :: c129 :: c130 :: c131 :: c132 :: c133 :: c134 :: c135 :: c136 :: c137 :: c138 :: c139 :: c140 :: c141 :: c142 :: c143 :: c144 :: c145 :: c146 :: c147 :: c148 :: c149 :: c150 :: c151 :: c152 :: c153 :: c154 :: c155 :: c156 :: c157 :: c158 :: c159 :: c160 :: c161 :: c162 :: c163 :: c164 :: c165 :: c166 :: c167 :: c168 :: c169 :: c170 :: c171 :: c172 :: c173 :: c174 :: c175 :: c176 :: c177 :: c178 :: c179 :: c180 :: c181 :: c182 :: c183 :: c184 :: c185 :: c186 :: c187 :: c188 :: c189 :: c190 :: c191 :: c192 :: c193 :: c194 :: c195 :: c196 :: c197 :: c198 :: c199 :: c200 :: c201 :: c202 :: c203 :: c204 :: c205 :: c206 :: c207 :: c208 :: c209 :: c210 :: c211 :: c212 :: c213 :: c214 :: c215 :: c216 :: c217 :: c218 :: c219 :: c220 :: c221 :: c222 :: c223 :: c224 :: c225 :: c226 :: c227 :: c228 :: c229 :: c230 :: c231 :: c232 :: c233 :: c234 :: c235 :: c236 :: c237 :: c238 :: c239 :: c240 :: c241 :: c242 :: c243 :: c244 :: c245 :: c246 :: c247 :: c248 :: c249 :: c250 :: c251 :: c252 :: []), []⟩ V0 := by
  have HEX := Lib.hid hexit
  have HRA := Lib.hid hra
  have HRB := Lib.hid hrb
  have HIB := Lib.hid hib
  have hkl : k < ta.length := (List.getElem?_eq_some_iff.1 hx).1
  obtain ⟨ga, va, rfl, hva, hca⟩ := hra k x hx
  obtain ⟨ik, hik, hxi⟩ := hia x (List.mem_of_getElem? hx)
  obtain ⟨_, _, rfl, ⟨Ap, pcp, rfl, hpa⟩, ⟨ia, ic, rfl, hia2⟩, _, hpl⟩ := hva
  obtain ⟨md, hmd⟩ : ∃ md, modeI (bits .and .i64 x.fi.flags 127) = md := ⟨_, rfl⟩
  obtain ⟨om, hom⟩ : ∃ om, (bits .and .i64 x.fi.flags 128 != 0) = om := ⟨_, rfl⟩
  obtain ⟨xn, hxn⟩ : ∃ xn, x.fi.name = xn := ⟨_, rfl⟩
  obtain ⟨xs, hxs⟩ : ∃ xs, x.fi.xmlns = xs := ⟨_, rfl⟩
  have hxl : x.idx.length = 1 := by rw [hxi]; rfl
  simp only [hmd, hom, hxl, hxn, hxs] at hca
  have HXN := Lib.hid hxn
  have HXS := Lib.hid hxs
  have hia0 := hia2 0 ik (by rw [hxi]; rfl)
  have HCA := Lib.hid hca
  have HPA := Lib.hid hpa
  have HXI := Lib.hid hxi
  have HMD := Lib.hid hmd
  have HOM := Lib.hid hom
  have HIA0 := Lib.hid hia0
  have hgaW : ga < W.heap.size := lt_cell (hca 0 _ rfl)
  have hiaW : ia < W.heap.size := lt_cell hia0
  have hWs := hWV.size
  clear hexit hra hrb hia hib hca hpa hia2 hxl hxi hmd hom hia0 hx hxn hxs
  conv => arg 2; arg 1; whnf
  go_loopg [24, 25] tb.length (fun gk s24 s25 wr => ∃ (i : Nat) (met : Bool), s24 = .bool met ∧ s25 = .int .i64 i ∧ i ≤ tb.length ∧ gk = tb.length - i ∧ Below V0.heap.size V0 wr ∧ ((∃ y ∈ tb.take i, hitF n fsl x y) → met = true))
  case atStart => exact ⟨0, false, rfl, rfl, Nat.zero_le _, rfl, Below.refl _ _, fun ⟨y, h, _⟩ => by simp at h⟩
  case round =>
    obtain ⟨i, met, rfl, rfl, hi, rfl, hb, hmet⟩ := hrel
    obtain ⟨V, hV⟩ : ∃ V, V = wr := ⟨_, rfl⟩
    subst hV
    have HB := Lib.hid hb
    have HMET := Lib.hid hmet
    clear hb hmet
    by_cases hlt : i < tb.length
    · obtain ⟨y, hy⟩ : ∃ y, tb[i]? = some y := ⟨_, List.getElem?_eq_getElem hlt⟩
      obtain ⟨gb, vb, rfl, hvb, hcb⟩ := HRB.out i y hy
      obtain ⟨jj, hjj, hyi⟩ := HIB.out y (List.mem_of_getElem? hy)
      obtain ⟨_, _, rfl, ⟨Bp, qcp, rfl, hpb⟩, ⟨jb, jc, rfl, hjb⟩, _, hql⟩ := hvb
      obtain ⟨md2, hmd2⟩ : ∃ md, modeI (bits .and .i64 y.fi.flags 127) = md := ⟨_, rfl⟩
      obtain ⟨om2, hom2⟩ : ∃ om, (bits .and .i64 y.fi.flags 128 != 0) = om := ⟨_, rfl⟩
      obtain ⟨yn, hyn⟩ : ∃ yn, y.fi.name = yn := ⟨_, rfl⟩
      obtain ⟨ys, hys⟩ : ∃ ys, y.fi.xmlns = ys := ⟨_, rfl⟩
      have hyl : y.idx.length = 1 := by rw [hyi]; rfl
      simp only [hmd2, hom2, hyl, hyn, hys] at hcb
      have HYN := Lib.hid hyn
      have HYS := Lib.hid hys
      have hjb0 := hjb 0 jj (by rw [hyi]; rfl)
      have hgbW : gb < W.heap.size := lt_cell (hcb 0 _ rfl)
      have hjbW : jb < W.heap.size := lt_cell hjb0
      have hbWV : Below W.heap.size W V := hWV.trans (HB.out.mono hWs)
      have hsV := hbWV.size
      have hk : ∀ (b j : Nat) (u : Value), b < W.heap.size → W.cell? ⟨b, j, none⟩ = some u → V.cell? ⟨b, j, none⟩ = some u := fun b j u h e => (World.cell?_of_block (hbWV.block b h)).trans e
      have e0 := hk gb (i * 6) _ hgbW (hcb 0 _ rfl)
      have e1 := hk gb (i * 6 + 1) _ hgbW (hcb 1 _ rfl)
      have e2 := hk gb (i * 6 + 2) _ hgbW (hcb 2 _ rfl)
      have e3 := hk gb (i * 6 + 3) _ hgbW (hcb 3 _ rfl)
      have e4 := hk gb (i * 6 + 4) _ hgbW (hcb 4 _ rfl)
      have e5 := hk gb (i * 6 + 5) _ hgbW (hcb 5 _ rfl)
      have e6 := hk jb 0 _ hjbW hjb0
      have hka : ∀ o, (V.alloc o).heap[gb]? = V.heap[gb]? := fun o => Below.heap_alloc V o gb (by omega)
      have hkj : ∀ o, (V.alloc o).heap[jb]? = V.heap[jb]? := fun o => Below.heap_alloc V o jb (by omega)
      have f5 : ∀ o, (V.alloc o).cell? ⟨gb, i * 6 + 5, none⟩ = _ := fun o => (World.cell?_of_block (hka o)).trans e5
      have f6 : ∀ o, (V.alloc o).cell? ⟨jb, 0, none⟩ = _ := fun o => (World.cell?_of_block (hkj o)).trans e6
      obtain ⟨m, hm⟩ : ∃ m : Nat, m = (jj + n) % fsl := ⟨_, rfl⟩
      have hml : m < fsl := by rw [hm]; exact Nat.mod_lt _ (by omega)
      have hmi : ((jj : Int) + (n : Int)) % (fsl : Int) = (m : Int) := by rw [hm, Int.natCast_emod, Int.natCast_add]
      have HMI := Lib.hid hmi
      have HMM := Lib.hid hm
      have HHIT := Lib.hid (show hitF n fsl x y → x.fi = y.fi ∧ ik = m from fun ⟨h1, i', j', h2, h3, h4⟩ => ⟨h1, by rw [HXI.out] at h2; rw [hyi] at h3; simp at h2 h3; rw [hm, h2, h3]; exact h4⟩)
      have htk := take_snoc hy
      have HTK := Lib.hid htk
      have HPB := Lib.hid hpb
      have HMD2 := Lib.hid hmd2
      have HOM2 := Lib.hid hom2
      have HBWV := Lib.hid hbWV
      have hi0 : (0 : Int) ≤ (i : Int) := by omega
      have hi1 : (i : Int) < (tb.length : Int) := by omega
      have hk0 : (0 : Int) ≤ (k : Int) := by omega
      have hk1 : (k : Int) < (ta.length : Int) := by omega
      have hfp : 0 < fsl := by omega
      clear hm hmi htk hpb hmd2 hom2 hbWV hk hka hkj hjb hjb0 hcb hyi hyl hy hyn hys
      go_upto_region 27 with fail
      rw [HMI.out]
      obtain ⟨W10, hW10⟩ : ∃ W10, W10 = (V.alloc (.cells #[.string ys, .string yn, .slice Bp y.fi.parents.length qcp, .int .i64 md2, .bool om2, .slice (some ⟨V.heap.size + 1, 0, none⟩) 1 1] 37)).alloc (.cells #[.int .i64 (m : Int)] 3) := ⟨_, rfl⟩
      rw [← hW10]
      obtain ⟨hb10, hs10, hB10, hM10⟩ := box_set (m : Int) W10 hW10
      have HB10 := Lib.hid hb10
      have HBX := Lib.hid hB10
      have HM10 := Lib.hid hM10
      clear hW10 hb10 hB10 hM10 e0 e1 e2 e3 e4 e5 e6 f5 f6
      have hrel : ∀ (met2 : Bool) (W9 : World), Below V.heap.size V W9 → (hitF n fsl x y → met2 = true) → (met = true → met2 = true) → ∃ (i' : Nat) (met' : Bool), Value.bool met2 = .bool met' ∧ Value.int .i64 ((i : Int) + 1) = .int .i64 i' ∧ i' ≤ tb.length ∧ tb.length - (i + 1) = tb.length - i' ∧ Below V0.heap.size V0 W9 ∧ ((∃ y ∈ tb.take i', hitF n fsl x y) → met' = true) := fun met2 W9 hb9 h1 h2 =>
        ⟨i + 1, met2, rfl, rfl, by omega, rfl, HB.out.trans (hb9.mono HB.out.size), fun ⟨z, hz, hh⟩ => by
          rw [HTK.out] at hz
          rcases List.mem_append.1 hz with hz | hz
          · exact h2 (HMET.out ⟨z, hz, hh⟩)
          · rw [List.mem_singleton.1 hz] at hh
            exact h1 hh⟩
      have HREL := Lib.hid hrel
      clear hrel
      have sAll : ∀ w', Below W10.heap.size W10 w' → (w'.cell? ⟨V.heap.size, 0, none⟩ = some (.string ys) ∧ w'.cell? ⟨V.heap.size, 1, none⟩ = some (.string yn) ∧ w'.cell? ⟨V.heap.size, 2, none⟩ = some (.slice Bp y.fi.parents.length qcp) ∧ w'.cell? ⟨V.heap.size, 3, none⟩ = some (.int .i64 md2) ∧ w'.cell? ⟨V.heap.size, 4, none⟩ = some (.bool om2) ∧ w'.cell? ⟨V.heap.size, 5, none⟩ = some (.slice (some ⟨V.heap.size + 1, 0, none⟩) 1 1) ∧ w'.cell? ⟨V.heap.size + 1, 0, none⟩ = some (.int .i64 (m : Int)) ∧ w'.cell? ⟨ga, k * 6, none⟩ = some (.string xs) ∧ w'.cell? ⟨ga, k * 6 + 1, none⟩ = some (.string xn) ∧ w'.cell? ⟨ga, k * 6 + 2, none⟩ = some (.slice Ap x.fi.parents.length pcp) ∧ w'.cell? ⟨ga, k * 6 + 3, none⟩ = some (.int .i64 md) ∧ w'.cell? ⟨ga, k * 6 + 4, none⟩ = some (.bool om) ∧ w'.cell? ⟨ga, k * 6 + 5, none⟩ = some (.slice (some ⟨ia, 0, none⟩) 1 ic) ∧ w'.cell? ⟨ia, 0, none⟩ = some (.int .i64 (ik : Int))) := fun w' hb => by
        obtain ⟨t0, t1, t2, t3, t4, t5, _⟩ := cells6 ((hb.block V.heap.size (by omega)).trans HBX.out)
        have hg : ∀ (b j : Nat) (u : Value), b < W.heap.size → W.cell? ⟨b, j, none⟩ = some u → w'.cell? ⟨b, j, none⟩ = some u := fun b j u h e => (World.cell?_of_block ((hb.block b (by omega)).trans ((HB10.out.block b (by omega)).trans (HBWV.out.block b h)))).trans e
        exact ⟨t0, t1, t2, t3, t4, t5, (World.cell?_of_block (hb.block (V.heap.size + 1) (by omega))).trans HM10.out, hg _ _ _ hgaW (HCA.out 0 _ rfl), hg _ _ _ hgaW (HCA.out 1 _ rfl), hg _ _ _ hgaW (HCA.out 2 _ rfl), hg _ _ _ hgaW (HCA.out 3 _ rfl), hg _ _ _ hgaW (HCA.out 4 _ rfl), hg _ _ _ hgaW (HCA.out 5 _ rfl), hg _ _ _ hiaW HIA0.out⟩
      have SALL := Lib.hid sAll
      clear sAll
      simp only [List.append]
      cases met with
      | true =>
        as_aux_lemma =>
          go_quiet (fail)
          go_wp2_with fail
          go_roundg (tb.length - (i + 1))
          case measure => omega
          case rel => exact HREL.out true _ (HB10.out.trans ((below_drewN _ _).mono HB10.out.size)) (fun _ => rfl) (fun _ => rfl)
      | false =>
        obtain ⟨p0, p1, p2, p3, p4, p5, p6, r0, r1, r2, r3, r4, r5, r6⟩ := SALL.out W10 (Below.refl _ _)
        by_cases h0 : m = ik
        · subst h0
          by_cases h1 : yn = xn
          · subst h1
            by_cases h2 : ys = xs
            · subst h2
              by_cases h3 : md2 = md
              · subst h3
                by_cases h4 : om2 = om
                · subst h4
                  clear p0 p1 p2 p3 p4 p5 p6 r0 r1 r2 r3 r4 r5 r6
                  have s0 := SALL.out W10.drew ((Below.refl _ _).drew)
                  have hk8 : ∀ b, b < W.heap.size → ∀ w', Below W10.heap.size W10 w' → w'.heap[b]? = W.heap[b]? := fun b hb w' h => (h.block b (by omega)).trans ((HB10.out.block b (by omega)).trans (HBWV.out.block b hb))
                  have hc11 : Calls Tryz.prog 11 #[.slice Bp y.fi.parents.length qcp, .slice Ap x.fi.parents.length pcp] W10.drew (SameP (y.fi.parents = x.fi.parents) W10.drew) := by
                    refine sameWords_any _ _ y.fi.parents x.fi.parents W10.drew ⟨Bp, qcp, rfl, fun j z e => ?_⟩ ⟨Ap, pcp, rfl, fun j z e => ?_⟩ (by omega) (by omega)
                    · obtain ⟨g, q1, q2⟩ := HPB.out j z e
                      exact ⟨g, q1, (World.cell?_of_block (hk8 g (lt_cell q2) _ ((Below.refl _ _).drew))).trans q2⟩
                    · obtain ⟨g, q1, q2⟩ := HPA.out j z e
                      exact ⟨g, q1, (World.cell?_of_block (hk8 g (lt_cell q2) _ ((Below.refl _ _).drew))).trans q2⟩
                  have HC11 := Lib.hid hc11
                  clear hc11 hk8
                  as_aux_lemma =>
                    go_region_held3 (fun w' => w'.cell? ⟨V.heap.size, 0, none⟩ = some (.string ys) ∧ w'.cell? ⟨V.heap.size, 1, none⟩ = some (.string yn) ∧ w'.cell? ⟨V.heap.size, 2, none⟩ = some (.slice Bp y.fi.parents.length qcp) ∧ w'.cell? ⟨V.heap.size, 3, none⟩ = some (.int .i64 md2) ∧ w'.cell? ⟨V.heap.size, 4, none⟩ = some (.bool om2) ∧ w'.cell? ⟨V.heap.size, 5, none⟩ = some (.slice (some ⟨V.heap.size + 1, 0, none⟩) 1 1) ∧ w'.cell? ⟨V.heap.size + 1, 0, none⟩ = some (.int .i64 (m : Int)) ∧ w'.cell? ⟨ga, k * 6, none⟩ = some (.string ys) ∧ w'.cell? ⟨ga, k * 6 + 1, none⟩ = some (.string yn) ∧ w'.cell? ⟨ga, k * 6 + 2, none⟩ = some (.slice Ap x.fi.parents.length pcp) ∧ w'.cell? ⟨ga, k * 6 + 3, none⟩ = some (.int .i64 md2) ∧ w'.cell? ⟨ga, k * 6 + 4, none⟩ = some (.bool om2) ∧ w'.cell? ⟨ga, k * 6 + 5, none⟩ = some (.slice (some ⟨ia, 0, none⟩) 1 ic) ∧ w'.cell? ⟨ia, 0, none⟩ = some (.int .i64 (m : Int)))
                      (first | with_reducible exact s1 | with_reducible exact s0)
                      ((go_at_call 11; refine HC11.out.mono ?_; rintro e w12 ⟨r, rfl, hb12, hr12⟩; have s1 := SALL.out w12 (below_of_drew hb12); have HB12 := Lib.hid (below_of_drew hb12); have HR12 := Lib.hid hr12; clear hb12 hr12))
                    all_goals
                      go_wp2_with fail
                      go_roundg (tb.length - (i + 1))
                      case measure => omega
                      case rel => exact HREL.out r _ (HB10.out.trans (HB12.out.mono HB10.out.size)) (fun h => HR12.out (by rw [(HHIT.out h).1])) (fun h => by cases h)
                · have h4b : (om2 == om) = false := by cases om2 <;> cases om <;> first | rfl | exact absurd rfl h4
                  as_aux_lemma =>
                    go_quiet (fail)
                    go_wp2_with fail
                    go_roundg (tb.length - (i + 1))
                    case measure => omega
                    case rel => exact HREL.out false _ (HB10.out.trans ((below_drewN _ _).mono HB10.out.size)) (fun h => absurd h (fun h => h4 (by rw [← HOM.out, ← HOM2.out, (HHIT.out h).1]))) (fun h => by cases h)
              · have h3b : ((md2 : Int) == md) = false := beq_eq_false_iff_ne.2 h3
                as_aux_lemma =>
                  go_quiet (fail)
                  go_wp2_with fail
                  go_roundg (tb.length - (i + 1))
                  case measure => omega
                  case rel => exact HREL.out false _ (HB10.out.trans ((below_drewN _ _).mono HB10.out.size)) (fun h => absurd h (fun h => h3 (by rw [← HMD.out, ← HMD2.out, (HHIT.out h).1]))) (fun h => by cases h)
            · have h2b : (ys.toList == xs.toList) = false := by
                cases hq : (ys.toList == xs.toList) with
                | false => rfl
                | true => exact absurd (AL.beq_iff.1 hq) h2
              as_aux_lemma =>
                go_quiet (fail)
                go_wp2_with fail
                go_roundg (tb.length - (i + 1))
                case measure => omega
                case rel => exact HREL.out false _ (HB10.out.trans ((below_drewN _ _).mono HB10.out.size)) (fun h => absurd h (fun h => h2 (by rw [← HXS.out, ← HYS.out, (HHIT.out h).1]))) (fun h => by cases h)
          · have h1b : (yn.toList == xn.toList) = false := by
              cases hq : (yn.toList == xn.toList) with
              | false => rfl
              | true => exact absurd (AL.beq_iff.1 hq) h1
            as_aux_lemma =>
              go_quiet (fail)
              go_wp2_with fail
              go_roundg (tb.length - (i + 1))
              case measure => omega
              case rel => exact HREL.out false _ (HB10.out.trans ((below_drewN _ _).mono HB10.out.size)) (fun h => absurd h (fun h => h1 (by rw [← HXN.out, ← HYN.out, (HHIT.out h).1]))) (fun h => by cases h)
        · have h0b : ((m : Int) == (ik : Int)) = false := beq_eq_false_iff_ne.2 (by omega)
          as_aux_lemma =>
            go_quiet (fail)
            go_wp2_with fail
            go_roundg (tb.length - (i + 1))
            case measure => omega
            case rel => exact HREL.out false _ (HB10.out.trans ((below_drewN _ _).mono HB10.out.size)) (fun h => absurd h (fun h => h0 ((HHIT.out h).2).symm)) (fun h => by cases h)
    · have hie : i = tb.length := by omega
      subst hie
      have hm := HMET.out
      rw [List.take_length] at hm
      have HM := Lib.hid hm
      clear hm
      go_wp2_with fail
      exact HEX.out _ _ _ _ _ _ _ _ _ _ _ _ _ _ _ _ _ _ _ _ _ _ _ _ _ _ _ _ _ _ _ _ _ _ _ _ _ _ _ _ _ _ _ _ _ _ _ _ _ _ _ _ _ _ _ _ _ _ _ _ _ _ _ _ _ _ _ _ _ _ _ _ _ _ _ _ _ _ _ _ _ _ _ _ _ _ _ _ _ _ _ met HB.out HM.out
end Go.Proofs.YtnmgocbmofbppaaGreatDoor
