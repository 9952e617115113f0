/- FnFieldsTurned: its first loop. -/
import Derived.Test.YtnmgocbmofbppaaGreatDoorA35
import Derived.Deep.RegionHeldLaw
import Derived.Deep.RegionHeld3

set_option linter.unusedVariables false
set_option linter.unusedSimpArgs false

namespace Go.Proofs.YtnmgocbmofbppaaGreatDoor
open Go.RowKit

theorem held8 {w w' : World} {b o : Nat} {a0 a1 a2 a3 a4 a5 a6 a7 : Value} (h : w'.heap[b]? = w.heap[b]?) (k : w.cell? ⟨b, o, none⟩ = some a0 ∧ w.cell? ⟨b, o + 1, none⟩ = some a1 ∧ w.cell? ⟨b, o + 2, none⟩ = some a2 ∧ w.cell? ⟨b, o + 3, none⟩ = some a3 ∧ w.cell? ⟨b, o + 4, none⟩ = some a4 ∧ w.cell? ⟨b, o + 5, none⟩ = some a5 ∧ w.cell? ⟨b, o + 6, none⟩ = some a6 ∧ w.cell? ⟨b, o + 7, none⟩ = some a7) :
    w'.cell? ⟨b, o, none⟩ = some a0 ∧ w'.cell? ⟨b, o + 1, none⟩ = some a1 ∧ w'.cell? ⟨b, o + 2, none⟩ = some a2 ∧ w'.cell? ⟨b, o + 3, none⟩ = some a3 ∧ w'.cell? ⟨b, o + 4, none⟩ = some a4 ∧ w'.cell? ⟨b, o + 5, none⟩ = some a5 ∧ w'.cell? ⟨b, o + 6, none⟩ = some a6 ∧ w'.cell? ⟨b, o + 7, none⟩ = some a7 := by
  obtain ⟨h0, h1, h2, h3, h4, h5, h6, h7⟩ := k
  exact ⟨(World.cell?_of_block h).trans h0, (World.cell?_of_block h).trans h1, (World.cell?_of_block h).trans h2, (World.cell?_of_block h).trans h3, (World.cell?_of_block h).trans h4, (World.cell?_of_block h).trans h5, (World.cell?_of_block h).trans h6, (World.cell?_of_block h).trans h7⟩
set_option maxHeartbeats 16000000 in
set_option maxRecDepth 1000000 in
theorem turn_loop {W0 W : World} {fs : List Fl} {n : Nat} {D : Option Addr} {cd : Nat} (A : Option Addr) (lk ca : Nat) (tb : Nat) (hpos : 0 < fs.length) (hmost : fs.length ≤ 12) (hn : n < fs.length) (hfs : FlsV W (· < W.heap.size) fs D 0)
    (hW : W0 = W.alloc (.cells #[.int .i64 13, .int .i64 0, .string ⟨#[]⟩, .slice none 0 0, .slice none 0 0] 26)) (R : Ending → World → Prop) (K : Act → World → Prop) {c2 c3 c4 c5 c6 c11 c12 c13 c14 c15 c16 c17 c18 c19 c20 c21 c22 c23 c24 c25 c26 c27 c28 c29 c30 c31 c32 c33 c34 c35 c36 c37 c38 c39 c40 c41 c42 c43 c44 c45 c46 c47 c48 c49 c50 c51 c52 c53 c54 c55 c56 c57 c58 c59 c60 c61 c62 c63 c64 c65 c66 c67 c68 c69 c70 c71 c72 c73 c74 c75 c76 c77 c78 c79 c80 c81 c82 c83 c84 c85 c86 c87 c88 c89 c90 c91 c92 c93 c94 c95 c96 c97 c98 c99 c100 c101 c102 c103 c104 c105 c106 c107 c108 c109 c110 c111 c112 c113 c114 c115 c116 c117 c118 c119 c120 c121 c122 c123 c124 c125 c126 c127 c128 c129 c130 c131 c132 c133 c134 c135 c136 c137 c138 c139 c140 c141 c142 c143 c144 c145 c146 c147 c148 c149 c150 c151 c152 c153 c154 c155 c156 c157 c158 c159 c160 c161 c162 c163 c164 c165 c166 c167 c168 c169 c170 c171 c172 c173 c174 c175 c176 c177 c178 c179 c180 c181 c182 c183 c184 c185 c186 c187 c188 c189 c190 c191 c192 c193 c194 c195 c196 c197 c198 c199 c200 c201 c202 c203 c204 c205 c206 c207 c208 c209 c210 c211 c212 c213 c214 c215 c216 c217 c218 c219 c220 c221 c222 c223 c224 c225 c226 c227 c228 c229 c230 c231 c232 c233 c234 c235 c236 c237 c238 c239 c240 c241 c242 c243 c244 c245 c246 c247 c248 c249 c250 c251 c252 : Value}
    (hexit : ∀ (u68 u69 u70 u71 u72 u73 u74 u75 u76 u77 u78 u79 u80 u81 u82 u83 u84 u85 u86 u87 : Value) (V : World) (v : Value) (dss : List (List Value)), TrSt W V (turn n fs) v dss → dss.length = fs.length → K ⟨List.toArray ((Value.slice A lk ca) :: (Value.slice D fs.length cd) :: c2 :: c3 :: c4 :: c5 :: c6 :: (Value.pointer (some ⟨tb, 0, none⟩)) :: (Value.pointer (some ⟨W.heap.size, 0, none⟩)) :: (Value.int .i64 (n : Int)) :: (Value.int .i64 fs.length) :: c11 :: c12 :: c13 :: c14 :: c15 :: c16 :: c17 :: c18 :: c19 :: c20 :: c21 :: c22 :: c23 :: c24 :: c25 :: c26 :: c27 :: c28 :: c29 :: c30 :: c31 :: c32 :: c33 :: c34 :: c35 :: c36 :: c37 :: c38 :: c39 :: c40 :: c41 :: c42 :: c43 :: c44 :: c45 :: c46 :: c47 :: c48 :: c49 :: c50 :: c51 :: c52 :: c53 :: c54 :: c55 :: c56 :: c57 :: c58 :: c59 :: c60 :: c61 :: c62 :: c63 :: c64 :: c65 :: c66 :: c67 :: u68 :: u69 :: u70 :: u71 :: u72 :: u73 :: u74 :: u75 :: u76 :: u77 :: u78 :: u79 :: u80 :: u81 :: u82 :: u83 :: u84 :: u85 :: u86 :: u87 :: c88 :: c89 :: c90 :: c91 :: c92 :: c93 :: c94 :: c95 :: c96 :: c97 :: c98 :: c99 :: c100 :: c101 :: c102 :: c103 :: c104 :: c105 :: c106 :: c107 :: c108 :: c109 :: c110 :: c111 :: c112 :: c113 :: c114 :: c115 :: c116 :: c117 :: c118 :: c119 :: c120 :: c121 :: c122 :: c123 :: c124 :: c125 :: c126 :: c127 :: c128 :: c129 :: c130 :: c131 :: c132 :: c133 :: c134 :: c135 :: c136 :: c137 :: c138 :: c139 :: c140 :: c141 :: c142 :: c143 :: c144 :: c145 :: c146 :: c147 :: c148 :: c149 :: c150 :: c151 :: c152 :: c153 :: c154 :: c155 :: c156 :: c157 :: c158 :: c159 :: c160 :: c161 :: c162 :: c163 :: c164 :: c165 :: c166 :: c167 :: c168 :: c169 :: c170 :: c171 :: c172 :: c173 :: c174 :: c175 :: c176 :: c177 :: c178 :: c179 :: c180 :: c181 :: c182 :: c183 :: c184 :: c185 :: c186 :: c187 :: c188 :: c189 :: c190 :: c191 :: c192 :: c193 :: c194 :: c195 :: c196 :: c197 :: c198 :: c199 :: c200 :: c201 :: c202 :: c203 :: c204 :: c205 :: c206 :: c207 :: c208 :: c209 :: c210 :: c211 :: c212 :: c213 :: c214 :: c215 :: c216 :: c217 :: c218 :: c219 :: c220 :: c221 :: c222 :: c223 :: c224 :: c225 :: c226 :: c227 :: c228 :: c229 :: c230 :: c231 :: c232 :: c233 :: c234 :: c235 :: c236 :: c237 :: c238 :: c239 :: c240 :: c241 :: c242 :: c243 :: c244 :: c245 :: c246 :: c247 :: c248 :: c249 :: c250 :: c251 :: c252 :: []), []⟩ V) :
    Code.wp Tryz.prog (Code.loop body4a) (Exit.inBlock 0 (Exit.then K (bodyPost Tryz.prog Tryz.f4 R))) ⟨List.toArray ((Value.slice A lk ca) :: (Value.slice D fs.length cd) :: c2 :: c3 :: c4 :: c5 :: c6 :: (Value.pointer (some ⟨tb, 0, none⟩)) :: (Value.pointer (some ⟨W.heap.size, 0, none⟩)) :: (Value.int .i64 (n : Int)) :: (Value.int .i64 0) :: c11 :: c12 :: c13 :: c14 :: c15 :: c16 :: c17 :: c18 :: c19 :: c20 :: c21 :: c22 :: c23 :: c24 :: c25 :: c26 :: c27 :: c28 :: c29 :: c30 :: c31 :: c32 :: c33 :: c34 :: c35 :: c36 :: c37 :: c38 :: c39 :: c40 :: c41 :: c42 :: c43 :: c44 :: c45 :: c46 :: c47 :: c48 :: c49 :: c50 :: c51 :: c52 :: c53 :: c54 :: c55 :: c56 :: c57 :: c58 :: c59 :: c60 :: c61 :: c62 :: c63 :: c64 :: c65 :: c66 :: c67 :: c68 :: c69 :: c70 :: c71 :: c72 :: c73 :: c74 :: c75 :: c76 :: c77 :: c78 :: c79 :: c80 :: c81 :: c82 :: c83 :: c84 :: c85 :: c86 :: c87 :: c88 :: c89 :: c90 :: c91 :: c92 :: c93 :: c94 :: c95 :: c96 :: c97 :: c98 :: c99 :: c100 :: c101 :: c102 :: c103 :: c104 :: c105 :: c106 :: c107 :: c108 :: c109 :: c110 :: c111 :: c112 :: c113 :: c114 :: c115 :: c116 :: c117 :: c118 :: c119 :: c120 :: c121 :: c122 :: c123 :: c124 :: c125 :: c126 :: c127 :: c128 :: c129 :: c130 :: c131 :: c132 :: c133 :: c134 :: c135 :: c136 :: c137 :: c138 :: c139 :: c140 :: c141 :: c142 :: c143 :: c144 :: c145 :: c146 :: c147 :: c148 :: c149 :: c150 :: c151 :: c152 :: c153 :: c154 :: c155 :: c156 :: c157 :: c158 :: c159 :: c160 :: c161 :: c162 :: c163 :: c164 :: c165 :: c166 :: c167 :: c168 :: c169 :: c170 :: c171 :: c172 :: c173 :: c174 :: c175 :: c176 :: c177 :: c178 :: c179 :: c180 :: c181 :: c182 :: c183 :: c184 :: c185 :: c186 :: c187 :: c188 :: c189 :: c190 :: c191 :: c192 :: c193 :: c194 :: c195 :: c196 :: c197 :: c198 :: c199 :: c200 :: c201 :: c202 :: c203 :: c204 :: c205 :: c206 :: c207 :: c208 :: c209 :: c210 :: c211 :: c212 :: c213 :: c214 :: c215 :: c216 :: c217 :: c218 :: c219 :: c220 :: c221 :: c222 :: c223 :: c224 :: c225 :: c226 :: c227 :: c228 :: c229 :: c230 :: c231 :: c232 :: c233 :: c234 :: c235 :: c236 :: c237 :: c238 :: c239 :: c240 :: c241 :: c242 :: c243 :: c244 :: c245 :: c246 :: c247 :: c248 :: c249 :: c250 :: c251 :: c252 :: []), []⟩ W0 := by
  have HFS := Lib.hid hfs
  have HEX := Lib.hid hexit
  have HW := Lib.hid hW
  have hst0 := TrSt.start W (turn n fs)
  rw [← hW] at hst0
  have HS0 := Lib.hid hst0
  clear hfs hexit hW hst0
  conv => arg 2; arg 1; whnf
  go_loopg [10] fs.length (fun gk s10 wr => ∃ (k : Nat) (v : Value) (dss : List (List Value)), s10 = .int .i64 k ∧ k ≤ fs.length ∧ gk = fs.length - k ∧ dss.length = k ∧ TrSt W wr (turn n fs) v dss)
  case atStart => exact ⟨0, _, [], rfl, Nat.zero_le _, rfl, rfl, HS0.out⟩
  case round =>
    obtain ⟨k, v, dss, rfl, hk, rfl, hdl, hst⟩ := hrel
    obtain ⟨V, hV⟩ : ∃ V, V = wr := ⟨_, rfl⟩
    subst hV
    have HDL := Lib.hid hdl
    have HST := Lib.hid hst
    clear hdl hst
    by_cases hlt : k < fs.length
    · obtain ⟨m, hm⟩ : ∃ m : Nat, m = (k + n) % fs.length := ⟨_, rfl⟩
      have hml : m < fs.length := by rw [hm]; exact Nat.mod_lt _ hpos
      obtain ⟨f, hf⟩ : ∃ f, fs[m]? = some f := ⟨_, List.getElem?_eq_getElem hml⟩
      obtain ⟨b, off, A', ca', B', cb', rfl, hbw, hfz, htv, hce⟩ := FlsV.at_ HFS.out hf
      have hti : (turn n fs)[k]? = some f := by rw [turn_at hn hlt, ← hm]; exact hf
      have hmi : ((k : Int) + (n : Int)) % (fs.length : Int) = (m : Int) := by rw [hm, Int.natCast_emod, Int.natCast_add]
      have hmt : ((k : Int) + (n : Int)).tmod (fs.length : Int) = (m : Int) := by rw [Int.tmod_eq_emod_of_nonneg (by omega)]; exact hmi
      have hwr : IntKind.i64.wrap ((k : Int) + (n : Int)) = (k : Int) + (n : Int) := IntWalk.i64_in _ (by omega)
      have hst := HST.out
      have hsV := hst.below.size
      have hbV : V.heap[b]? = W.heap[b]? := hst.below.block b hbw
      have e0 : V.drew.cell? ⟨b, off + m * 8, none⟩ = some (.string f.name) := (World.cell?_of_block hbV).trans hce.c0
      have e1 : V.drew.cell? ⟨b, off + m * 8 + 1, none⟩ = some (.string f.tag) := (World.cell?_of_block hbV).trans hce.c1
      have e2 : V.drew.cell? ⟨b, off + m * 8 + 2, none⟩ = some (.bool f.emb) := (World.cell?_of_block hbV).trans hce.c2
      have e3 : V.drew.cell? ⟨b, off + m * 8 + 3, none⟩ = some (.int .i64 f.t.kind) := (World.cell?_of_block hbV).trans hce.c3
      have e4 : V.drew.cell? ⟨b, off + m * 8 + 4, none⟩ = some (.int .i64 f.t.n) := (World.cell?_of_block hbV).trans hce.c4
      have e5 : V.drew.cell? ⟨b, off + m * 8 + 5, none⟩ = some (.string f.t.s) := (World.cell?_of_block hbV).trans hce.c5
      have e6 : V.drew.cell? ⟨b, off + m * 8 + 6, none⟩ = some (.slice A' f.t.of.length ca') := (World.cell?_of_block hbV).trans hce.c6
      have e7 : V.drew.cell? ⟨b, off + m * 8 + 7, none⟩ = some (.slice B' f.t.fields.length cb') := (World.cell?_of_block hbV).trans hce.c7
      have hout : V.drew.heap[W.heap.size]? = some (.cells #[.int .i64 13, .int .i64 0, .string ⟨#[]⟩, .slice none 0 0, v] 26) := hst.out
      obtain ⟨x0, x1, x2, x3, x4, xf⟩ := q_cells5 hout
      have hx4 := x4
      have hxf := xf 4
      have hUL : W.heap.size < V.heap.size := by have := hst.size; omega
      have hi0 : (0 : Int) ≤ (m : Int) := by omega
      have hi1 : (m : Int) < (fs.length : Int) := by omega
      have hlp : ((fs.length : Int) == 0) = false := by rw [beq_eq_false_iff_ne]; omega
      have hlp2 : ¬ fs = [] := fun e => by rw [e] at hpos; cases hpos
      have hlp3 : ¬ ((fs.length : Int) = 0) := by omega
      have hflv : FlV W (· < W.heap.size) f [.string f.name, .string f.tag, .bool f.emb, .int .i64 f.t.kind, .int .i64 f.t.n, .string f.t.s, .slice A' f.t.of.length ca', .slice B' f.t.fields.length cb'] := by
        cases f
        exact ⟨_, rfl, hfz, htv⟩
      have hown := ownG_below hst.own ((Below.refl V.heap.size V).drew)
      rw [HDL.out] at hown
      have HOWN := Lib.hid hown
      have HFL := Lib.hid hflv
      have HTI := Lib.hid hti
      have HBV := Lib.hid hbV
      clear hown hflv hti hbV hst hf hfz htv hce hm x0 x1 x2 x3 x4 xf hout
      have hkb : ∀ o, (V.alloc o).drew.heap[b]? = V.heap[b]? := fun o => Below.heap_alloc V o b (by omega)
      have hku : ∀ o, (V.alloc o).drew.heap[W.heap.size]? = V.heap[W.heap.size]? := fun o => Below.heap_alloc V o W.heap.size hUL
      have hq7 : ∀ o, (V.alloc o).cell? ⟨W.heap.size, 4, none⟩ = some v := fun o => (World.cell?_of_block (Below.heap_alloc V o W.heap.size hUL)).trans hx4
      have hnb : b ≠ W.heap.size := by omega
      have hvu : v.ownBlock ≠ some W.heap.size := fun e => by have := (HST.out.own.lt _ e).1; omega
      have hvb : v.ownBlock ≠ some b := fun e => by have := (HST.out.own.lt _ e).1; omega
      obtain ⟨i0, hi0', hz0, hz1, hz2⟩ := info_parts q_info32
      go_upto_region 11 with fail
      refine wp_region_held_drew (S := (fun w' => w'.cell? ⟨b, off + m * 8, none⟩ = some (.string f.name) ∧ w'.cell? ⟨b, off + m * 8 + 1, none⟩ = some (.string f.tag) ∧ w'.cell? ⟨b, off + m * 8 + 2, none⟩ = some (.bool f.emb) ∧ w'.cell? ⟨b, off + m * 8 + 3, none⟩ = some (.int .i64 f.t.kind) ∧ w'.cell? ⟨b, off + m * 8 + 4, none⟩ = some (.int .i64 f.t.n) ∧ w'.cell? ⟨b, off + m * 8 + 5, none⟩ = some (.string f.t.s) ∧ w'.cell? ⟨b, off + m * 8 + 6, none⟩ = some (.slice A' f.t.of.length ca') ∧ w'.cell? ⟨b, off + m * 8 + 7, none⟩ = some (.slice B' f.t.fields.length cb'))) (by kernel_rfl) ?_ (fun hHeldq => ?_)
      · (try dsimp only); with_reducible exact ⟨e0, e1, e2, e3, e4, e5, e6, e7⟩
      refine wpAnyH_take (i := 0) (oi := _) (v := ?_) rfl (by kernel_rfl) (by kernel_rfl) (by kernel_rfl) (fun _ _ _ h => h) (Or.inl ⟨by rfl, ?_⟩) (by assumption) ?_
      rotate_left
      · (intro wq hSwq; (try dsimp only at hSwq); go_simp; (try with_reducible rfl))
      try simp only [Act.put, List.getElem_toArray, List.getElem_cons_zero, List.getElem_cons_succ, List.setIfInBounds_toArray, List.set_cons_zero, List.set_cons_succ]
      refine wpAnyH_take (i := 2) (oi := _) (v := ?_) rfl (by kernel_rfl) (by kernel_rfl) (by kernel_rfl) (fun _ _ _ h => h) (Or.inl ⟨by rfl, ?_⟩) (by assumption) ?_
      rotate_left
      · (intro wq hSwq; (try dsimp only at hSwq); go_simp; (try with_reducible rfl))
      try simp only [Act.put, List.getElem_toArray, List.getElem_cons_zero, List.getElem_cons_succ, List.setIfInBounds_toArray, List.set_cons_zero, List.set_cons_succ]
      refine wpAnyH_take (i := 3) (oi := _) (v := ?_) rfl (by kernel_rfl) (by kernel_rfl) (by kernel_rfl) (fun _ _ _ h => h) (Or.inl ⟨by rfl, ?_⟩) (by assumption) ?_
      rotate_left
      · (intro wq hSwq; (try dsimp only at hSwq); go_simp; (try with_reducible rfl))
      try simp only [Act.put, List.getElem_toArray, List.getElem_cons_zero, List.getElem_cons_succ, List.setIfInBounds_toArray, List.set_cons_zero, List.set_cons_succ]
      refine wpAnyH_take (i := 4) (oi := _) (v := ?_) rfl (by kernel_rfl) (by kernel_rfl) (by kernel_rfl) (fun _ _ _ h => h) (Or.inl ⟨by rfl, ?_⟩) (by assumption) ?_
      rotate_left
      · (intro wq hSwq; (try dsimp only at hSwq); go_simp; (try with_reducible rfl))
      try simp only [Act.put, List.getElem_toArray, List.getElem_cons_zero, List.getElem_cons_succ, List.setIfInBounds_toArray, List.set_cons_zero, List.set_cons_succ]
      refine wpAnyH_take (i := 5) (oi := _) (v := ?_) rfl (by kernel_rfl) (by kernel_rfl) (by kernel_rfl) (fun _ _ _ h => h) (Or.inl ⟨by rfl, ?_⟩) (by assumption) ?_
      rotate_left
      · (intro wq hSwq; (try dsimp only at hSwq); go_simp; (try with_reducible rfl))
      try simp only [Act.put, List.getElem_toArray, List.getElem_cons_zero, List.getElem_cons_succ, List.setIfInBounds_toArray, List.set_cons_zero, List.set_cons_succ]
      refine wpAnyH_take (i := 6) (oi := _) (v := ?_) rfl (by kernel_rfl) (by kernel_rfl) (by kernel_rfl) (fun _ _ _ h => h) (Or.inl ⟨by rfl, ?_⟩) (by assumption) ?_
      rotate_left
      · (intro wq hSwq; (try dsimp only at hSwq); go_simp; (try with_reducible rfl))
      try simp only [Act.put, List.getElem_toArray, List.getElem_cons_zero, List.getElem_cons_succ, List.setIfInBounds_toArray, List.set_cons_zero, List.set_cons_succ]
      refine wpAnyH_take (i := 7) (oi := _) (v := ?_) rfl (by kernel_rfl) (by kernel_rfl) (by kernel_rfl) (fun _ _ _ h => h) (Or.inl ⟨by rfl, ?_⟩) (by assumption) ?_
      rotate_left
      · (intro wq hSwq; (try dsimp only at hSwq); go_simp; (try with_reducible rfl))
      try simp only [Act.put, List.getElem_toArray, List.getElem_cons_zero, List.getElem_cons_succ, List.setIfInBounds_toArray, List.set_cons_zero, List.set_cons_succ]
      refine wpAnyH_take (i := 8) (oi := _) (v := ?_) rfl (by kernel_rfl) (by kernel_rfl) (by kernel_rfl) (fun _ _ _ h => h) (Or.inl ⟨by rfl, ?_⟩) (by assumption) ?_
      rotate_left
      · (intro wq hSwq; (try dsimp only at hSwq); go_simp; (try with_reducible rfl))
      try simp only [Act.put, List.getElem_toArray, List.getElem_cons_zero, List.getElem_cons_succ, List.setIfInBounds_toArray, List.set_cons_zero, List.set_cons_succ]
      refine wpAnyH_take (i := 9) (oi := _) (v := ?_) rfl (by kernel_rfl) (by kernel_rfl) (by kernel_rfl) (fun _ _ _ h => h) (Or.inl ⟨by rfl, ?_⟩) (by assumption) ?_
      rotate_left
      · (intro wq hSwq; (try dsimp only at hSwq); go_simp; (try with_reducible rfl))
      try simp only [Act.put, List.getElem_toArray, List.getElem_cons_zero, List.getElem_cons_succ, List.setIfInBounds_toArray, List.set_cons_zero, List.set_cons_succ]
      refine wpAnyH_take (i := 10) (oi := _) (v := ?_) rfl (by kernel_rfl) (by kernel_rfl) (by kernel_rfl) (fun _ _ _ h => h) (Or.inl ⟨by rfl, ?_⟩) (by assumption) ?_
      rotate_left
      · (intro wq hSwq; (try dsimp only at hSwq); go_simp; (try with_reducible rfl))
      try simp only [Act.put, List.getElem_toArray, List.getElem_cons_zero, List.getElem_cons_succ, List.setIfInBounds_toArray, List.set_cons_zero, List.set_cons_succ]
      refine wpAnyH_ready (rs := [1, 11]) (by kernel_rfl) (by simp) ?_
      refine AllReadyH.cons rfl (fun Kq hKq => ?_) (AllReadyH.cons rfl (fun Kq hKq => ?_) AllReadyH.nil)
      go_simp
      refine hKq.out _ _ ?_ (fun hHeld2 => ?_)
      · (try dsimp only); with_reducible exact ⟨e0, e1, e2, e3, e4, e5, e6, e7⟩
      clear hKq Kq hHeldq
      have hHeldq := hHeld2
      clear hHeld2
      try simp only [Act.put, List.getElem_toArray, List.getElem_cons_zero, List.getElem_cons_succ, List.setIfInBounds_toArray, List.set_cons_zero, List.set_cons_succ]
      refine wpAnyH_ready (rs := [11]) (by kernel_rfl) (by simp) ?_
      refine AllReadyH.cons rfl (fun Kq hKq => ?_) AllReadyH.nil
      go_simp
      refine hKq.out _ _ ?_ (fun hHeld2 => ?_)
      · (try dsimp only); exact held8 (hkb _) ⟨e0, e1, e2, e3, e4, e5, e6, e7⟩
      clear hKq Kq hHeldq
      have hHeldq := hHeld2
      clear hHeld2
      try simp only [Act.put, List.getElem_toArray, List.getElem_cons_zero, List.getElem_cons_succ, List.setIfInBounds_toArray, List.set_cons_zero, List.set_cons_succ]
      rotate_left
      go_simp
      refine hKq.out _ _ ?_ (fun hHeld2 => ?_)
      · (try dsimp only); exact held8 (hkb _) ⟨e0, e1, e2, e3, e4, e5, e6, e7⟩
      clear hKq Kq hHeldq
      have hHeldq := hHeld2
      clear hHeld2
      try simp only [Act.put, List.getElem_toArray, List.getElem_cons_zero, List.getElem_cons_succ, List.setIfInBounds_toArray, List.set_cons_zero, List.set_cons_succ]
      refine wpAnyH_ready (rs := [1]) (by kernel_rfl) (by simp) ?_
      refine AllReadyH.cons rfl (fun Kq hKq => ?_) AllReadyH.nil
      go_simp
      refine hKq.out _ _ ?_ (fun hHeld2 => ?_)
      · (try dsimp only); exact held8 (hkb _) ⟨e0, e1, e2, e3, e4, e5, e6, e7⟩
      clear hKq Kq hHeldq
      have hHeldq := hHeld2
      clear hHeld2
      try simp only [Act.put, List.getElem_toArray, List.getElem_cons_zero, List.getElem_cons_succ, List.setIfInBounds_toArray, List.set_cons_zero, List.set_cons_succ]
      all_goals
        refine wpAnyH_ready (rs := [12]) (by kernel_rfl) (by simp) ?_
        refine AllReadyH.cons rfl (fun Kq hKq => ?_) AllReadyH.nil
        (refine step_append_lies _ rfl (.tmp 75) (.tmp 85) 24 rfl (W.heap.size + 1) 32 i0 _ 8 120 Tryz.underlying24 hi0' hz0 hz1 hz2 rfl (by decide) v k (flat dss) (by simp [Act.eval, Act.put]) (World.ownsRow.alloc HOWN.out _) ⟨V.heap.size, 0, none⟩ 1 1 [.string f.name, .string f.tag, .bool f.emb, .int .i64 f.t.kind, .int .i64 f.t.n, .string f.t.s, .slice A' f.t.of.length ca', .slice B' f.t.fields.length cb'] (by simp [Act.eval, Act.put]) rfl (World.news_of_block (heap_alloc_new V.drew _)) (by simp [Value.oneCell']) (by decide) (by unfold maxLen; omega) (by omega) (by simp; omega) _ rfl ?_; intro g cap w9 hown9 hg9 hat hlt9; have hb9 : w9.heap[b]? = V.drew.heap[b]? := (hg9.block b (by simp; omega) (fun e => hvb e.symm)).trans (Below.heap_alloc V.drew _ b (by simp; omega)); have hu9 : w9.heap[W.heap.size]? = V.drew.heap[W.heap.size]? := (hg9.block W.heap.size (by simp; omega) (fun e => hvu e.symm)).trans (Below.heap_alloc V.drew _ W.heap.size (by simp; omega)); have k9 := held8 hb9 ⟨e0, e1, e2, e3, e4, e5, e6, e7⟩; have q4' : w9.cell? ⟨W.heap.size, 4, none⟩ = some v := (World.cell?_of_block hu9).trans hx4; have qf' : w9.frozen? ⟨W.heap.size, 4, none⟩ = false := (World.frozen?_of_block hu9).trans hxf; have HO9 := Lib.hid hown9; have HG9 := Lib.hid hg9; clear hown9 hg9 hb9 hu9)
        refine hKq.out _ _ ?_ (fun hHeld2 => ?_)
        · (try dsimp only); with_reducible exact k9
        clear hKq Kq hHeldq
        have hHeldq := hHeld2
        clear hHeld2
        try simp only [Act.put, List.getElem_toArray, List.getElem_cons_zero, List.getElem_cons_succ, List.setIfInBounds_toArray, List.set_cons_zero, List.set_cons_succ]
        refine wpAnyH_take (i := 13) (oi := _) (v := ?_) rfl (by kernel_rfl) (by kernel_rfl) (by kernel_rfl) (fun _ _ _ h => h) (Or.inl ⟨by rfl, ?_⟩) (by assumption) ?_
        rotate_left
        · (intro wq hSwq; (try dsimp only at hSwq); go_simp; (try with_reducible rfl))
        try simp only [Act.put, List.getElem_toArray, List.getElem_cons_zero, List.getElem_cons_succ, List.setIfInBounds_toArray, List.set_cons_zero, List.set_cons_succ]
        refine wpAnyH_ready (rs := [14]) (by kernel_rfl) (by simp) ?_
        refine AllReadyH.cons rfl (fun Kq hKq => ?_) AllReadyH.nil
        go_simp
        refine hKq.out _ _ ?_ (fun hHeld2 => ?_)
        · (try dsimp only); exact held8 (Below.heap_setCell _ _ _ b hnb) k9
        clear hKq Kq hHeldq
        have hHeldq := hHeld2
        clear hHeld2
        try simp only [Act.put, List.getElem_toArray, List.getElem_cons_zero, List.getElem_cons_succ, List.setIfInBounds_toArray, List.set_cons_zero, List.set_cons_succ]
        refine wpAnyH_done (by kernel_rfl) ?_ _
      all_goals
        have hdl := HDL.out
        subst hdl
        have hst2 := HST.out.push (w5 := V.drew) ((Below.refl _ _).drew) HFL.out HTI.out HO9.out HG9.out (Ext.setCell (S := (· = W.heap.size)) w9 (a := ⟨W.heap.size, 4, none⟩) rfl (.slice (some ⟨g, 0, none⟩) (dss.length + 1) cap)) (fun c h => q_set26 h)
        have HS2 := Lib.hid hst2
        clear hst2
        go_wp2_with fail
        go_roundg (fs.length - (dss.length + 1))
        case measure => omega
        case rel => exact ⟨dss.length + 1, _, _, by go_num, by omega, rfl, by simp, HS2.out⟩
    · have hke : k = fs.length := by omega
      subst hke
      go_wp2_with fail
      exact HEX.out _ _ _ _ _ _ _ _ _ _ _ _ _ _ _ _ _ _ _ _ _ _ _ HST.out HDL.out
end Go.Proofs.YtnmgocbmofbppaaGreatDoor
