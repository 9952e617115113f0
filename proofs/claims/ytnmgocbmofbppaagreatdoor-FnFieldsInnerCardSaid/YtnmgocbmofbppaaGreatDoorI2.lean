/- FnFieldsInner: the whole walk. -/
import Derived.Test.YtnmgocbmofbppaaGreatDoorA35
import Derived.Test.YtnmgocbmofbppaaGreatDoorA29
import Derived.Test.YtnmgocbmofbppaaGreatDoorA13
import Derived.Test.YtnmgocbmofbppaaGreatDoorA12
import Derived.Test.YtnmgocbmofbppaaGreatDoorA18
import Derived.Test.YtnmgocbmofbppaaGreatDoorI1

set_option linter.unusedVariables false
set_option linter.unusedSimpArgs false

namespace Go.Proofs.YtnmgocbmofbppaaGreatDoor
open Go.RowKit

abbrev innerT (name : ByteArray) : Ty := .mk 14 0 name [] []
theorem field26 (k n : Int) (s : ByteArray) (A : Option Addr) (la ca : Nat) (D : Option Addr) (lb cb : Nat) (w : World) : (Instr.field 26 (.agg #[.int .i64 k, .int .i64 n, .string s, .slice A la ca, .slice D lb cb]) 0).run Tryz.prog w = .ok (.int .i64 k) w := by kernel_rfl
theorem emp0 : (⟨#[]⟩ : ByteArray).size = 0 := rfl
theorem inner_wf {name : ByteArray} : (innerT name).wf := by
  unfold Ty.wf
  exact ⟨by decide, by decide, fun _ => rfl, trivial, trivial⟩
theorem ptr_tyv {W : World} {P : Nat} {name : ByteArray} (hP : W.heap[P]? = some (.cells #[.int .i64 14, .int .i64 0, .string name, .slice none 0 0, .slice none 0 0] 26)) (hn : name.size ≤ big) :
    TyV W (· < W.heap.size) (.mk 12 0 ⟨#[]⟩ [innerT name] []) [.int .i64 12, .int .i64 0, .string ⟨#[]⟩, .slice (some ⟨P, 0, none⟩) 1 1, .slice none 0 0] := by
  obtain ⟨x0, x1, x2, x3, x4, _⟩ := cells5 hP
  refine ⟨some ⟨P, 0, none⟩, 1, none, 0, rfl, ⟨by decide, by simp [big], by simp [big]⟩, ⟨⟨P, 0, _, rfl, lt_cell x0, ⟨none, 0, none, 0, rfl, ⟨hn, by simp [big], by simp [big]⟩, trivial, trivial⟩, fun j v e => ?_⟩, trivial⟩, trivial⟩
  have hj : j < 5 := by have := (List.getElem?_eq_some_iff.1 e).1; simpa using this
  obtain rfl | rfl | rfl | rfl | rfl : j = 0 ∨ j = 1 ∨ j = 2 ∨ j = 3 ∨ j = 4 := by omega
  all_goals (simp at e; subst e)
  · exact x0
  · exact x1
  · exact x2
  · exact x3
  · exact x4
theorem str_tyv {W : World} {R : Nat} {name s : ByteArray} {k n : Int} {A' : Option Addr} {la ca' : Nat} {D : Option Addr} {lb cb : Nat} {tt : Ty} (hR : W.heap[R]? = some (.cells #[.string name, .string ⟨#[]⟩, .bool true, .int .i64 k, .int .i64 n, .string s, .slice A' la ca', .slice D lb cb] 32)) (hn : name.size ≤ big)
    (ht : TyV W (· < W.heap.size) tt [.int .i64 k, .int .i64 n, .string s, .slice A' la ca', .slice D lb cb]) : TyV W (· < W.heap.size) (.mk 13 0 ⟨#[]⟩ [] [.mk name ⟨#[]⟩ true tt]) [.int .i64 13, .int .i64 0, .string ⟨#[]⟩, .slice none 0 0, .slice (some ⟨R, 0, none⟩) 1 1] := by
  obtain ⟨x0, x1, x2, x3, x4, x5, x6, x7, _⟩ := q_cells8 hR
  refine ⟨none, 0, some ⟨R, 0, none⟩, 1, rfl, ⟨by decide, by simp [big], by simp [big]⟩, trivial, ⟨⟨R, 0, _, rfl, lt_cell x0, ⟨_, rfl, ⟨hn, by decide⟩, ht⟩, fun j v e => ?_⟩, trivial⟩⟩
  have hj : j < 8 := by have := (List.getElem?_eq_some_iff.1 e).1; simpa using this
  obtain rfl | rfl | rfl | rfl | rfl | rfl | rfl | rfl : j = 0 ∨ j = 1 ∨ j = 2 ∨ j = 3 ∨ j = 4 ∨ j = 5 ∨ j = 6 ∨ j = 7 := by omega
  all_goals (simp at e; subst e)
  · exact x0
  · exact x1
  · exact x2
  · exact x3
  · exact x4
  · exact x5
  · exact x6
  · exact x7
/-- What the law asks of its arguments. -/
structure InOk1 (l : AL Ty) (name : ByteArray) : Prop where
  len : l.length ≤ 10
  nd : NdSz l
  kd : ∀ p ∈ l, NdKind p.2.kind
  sz : (innerT name).sz ≤ 1500
  k13 : (envT l name).kind = 13
set_option maxHeartbeats 16000000 in
set_option maxRecDepth 100000 in
theorem inner_any {U : Lib.RTab} {B : Nat} (hS : SeesC U B) (l : AL Ty) (A : Option Addr) (ca : Nat) (name : ByteArray) (ptr : Bool) (w : World) (hB : B ≤ w.heap.size) (hU : Uni U B w) (hTb : Tabs B w) (hE : EofC B w) (hl : NdV w (· < w.heap.size) l A 0) (hll : l.length ≤ big) (hnl : name.size ≤ big) :
    Calls Tryz.prog 3 #[.slice A l.length ca, .string name, .bool ptr] w fun e w' => e = .returned (.bool true) ∧ Below w.heap.size w w' := by
  have HSE := Lib.hid hS
  have HU := Lib.hid hU
  have HTB := Lib.hid hTb
  have HE := Lib.hid hE
  have HL := Lib.hid hl
  clear hS hU hTb hE hl
  by_cases g1 : 2147483647 < l.length
  · have g1z : (2147483647 : Int) < (l.length : Int) := by omega
    go_enter Tryz.func3, Tryz.ntmps3
    go_wp2
    go_ret
    exact ⟨rfl, Below.refl _ _⟩
  · have g1z : ¬ (2147483647 : Int) < (l.length : Int) := by omega
    by_cases g2 : 2147483647 < name.size
    · have g2z : (2147483647 : Int) < (name.size : Int) := by omega
      go_enter Tryz.func3, Tryz.ntmps3
      go_wp2
      go_ret
      exact ⟨rfl, Below.refl _ _⟩
    · have g2z : ¬ (2147483647 : Int) < (name.size : Int) := by omega
      go_enter Tryz.func3, Tryz.ntmps3
      go_upto_region 3 with fail
      go_cut [7] (fun s7 wx => s7 = .pointer (some ⟨w.heap.size, 0, none⟩) ∧ Below w.heap.size w wx ∧ wx.heap[w.heap.size]? = some (.cells #[.int .i64 14, .int .i64 0, .string name, .slice none 0 0, .slice none 0 0] 26))
      case first =>
        go_wp2
        go_meet
        exact ⟨rfl, (Below.refl _ _).alloc (Nat.le_refl _) _, heap_alloc_new _ _⟩
      case rest =>
        obtain ⟨rfl, hb1, hx1⟩ := hcut
        obtain ⟨x0, x1, x2, x3, x4, xf⟩ := cells5 hx1
        have hs1 : w.heap.size < wc.heap.size := lt_cell x0
        have hty : ∀ w', TyV w' (· < w'.heap.size) (innerT name) [.int .i64 14, .int .i64 0, .string name, .slice none 0 0, .slice none 0 0] := fun w' => ⟨none, 0, none, 0, rfl, ⟨hnl, by simp [big], by simp [big]⟩, trivial, trivial⟩
        have HTY := Lib.hid hty
        have HB1 := Lib.hid hb1
        have HX1 := Lib.hid hx1
        clear hty hb1 hx1
        obtain ⟨W1, hW1⟩ : ∃ W1, W1 = wc := ⟨_, rfl⟩
        subst hW1
        go_upto_region 4 with fail
        go_cut [49] (fun s49 wx => ∃ q, s49 = .bool q ∧ Below W1.heap.size W1 wx ∧ (q = false → InOk1 l name))
        case first =>
          by_cases g3 : 10 < l.length
          · have g3z : (10 : Int) < (l.length : Int) := by omega
            go_wp2
            go_meet
            exact ⟨true, rfl, Below.refl _ _, fun e => by cases e⟩
          · have g3z : ¬ (10 : Int) < (l.length : Int) := by omega
            have hc6 := typeLeft_any (innerT name).sz (innerT name) _ 1500 W1 (Nat.le_refl _) (HTY.out W1) (by decide) (by decide)
            have hc5 : ∀ w2 r1, Below W1.heap.size W1 w2 → -140737488351232 ≤ r1 → r1 ≤ 1500 → Calls Tryz.prog 5 #[.slice A l.length ca, .int .i64 r1] w2 _ := fun w2 r1 hb h0 h1 => typesLeft_any l A ca r1 w2 (by omega) h0 h1 (NdV.keep (fun b hb' => ⟨by have := HB1.out.size; have := hb.size; omega, (hb.block b (by have := HB1.out.size; omega)).trans (HB1.out.block b hb')⟩) _ _ _ HL.out)
            have hc7 : ∀ w3, Below W1.heap.size W1 w3 → (∀ p ∈ l, p.2.kind ≠ 14) → Calls Tryz.prog 7 #[.slice A l.length ca, .agg #[.int .i64 14, .int .i64 0, .string name, .slice none 0 0, .slice none 0 0]] w3 _ := fun w3 hb hk => Bare_any l A ca name w3 (by omega) (NdV.keep (fun b hb' => ⟨by have := HB1.out.size; have := hb.size; omega, (hb.block b (by have := HB1.out.size; omega)).trans (HB1.out.block b hb')⟩) _ _ _ HL.out) hk
            have HC6 := Lib.hid hc6
            have HC5 := Lib.hid hc5
            have HC7 := Lib.hid hc7
            clear hc6 hc5 hc7
            go_wp2_with (first
              | (go_at_call 5; refine (HC5.out w2 r1 hb2 hr1.1 hr1.2).mono ?_; rintro e w3 ⟨r2, rfl, hr2, hb3⟩; refine Hid.out ?_)
              | (go_at_call 6; refine HC6.out.mono ?_; rintro e w2 ⟨r1, rfl, hr1, hr1', hb2⟩))
            have hb13 := hb2.trans (hb3.mono hb2.size)
            have HB13 := Lib.hid hb13
            have HR1 := Lib.hid hr1'
            have HR2 := Lib.hid hr2
            have hbx3 := (hb13.block w.heap.size hs1).trans HX1.out
            clear hb2 hb3 hb13 hr1 hr1' hr2 x0 x1 x2 x3 x4 xf
            obtain ⟨x0, x1, x2, x3, x4, xf⟩ := cells5 hbx3
            clear hbx3
            by_cases h2 : r2 < 0
            · refine Lib.hid ?_
              go_wp2_with fail
              go_meet
              exact ⟨true, rfl, HB13.out, fun e => by cases e⟩
            · obtain ⟨hnd, hkd, hl0⟩ := HR2.out (by omega)
              obtain ⟨_, hsum⟩ := HR1.out hl0
              have hc7 := HC7.out w3 HB13.out (fun p hp => (hkd p hp).2.2.2.2.2.2)
              obtain ⟨kd, hk⟩ : ∃ kd, (envT l name).kind = kd := ⟨_, rfl⟩
              rw [hk] at hc7
              have HC7b := Lib.hid hc7
              have hfd := field26
              clear hc7
              by_cases hk13 : kd = 13
              · subst hk13
                refine Lib.hid ?_
                go_wp2_with (go_at_call 7; refine HC7b.out.mono ?_; rintro e w4 ⟨hb4, n1, s1, A1, la1, ca1, D1, lb1, cb1, rfl⟩)
                go_meet
                exact ⟨false, rfl, HB13.out.trans (hb4.mono HB13.out.size), fun _ => ⟨by omega, hnd, hkd, by omega, hk⟩⟩
              · have hkq : (kd == 13) = false := by rw [beq_eq_false_iff_ne]; exact hk13
                refine Lib.hid ?_
                go_wp2_with (go_at_call 7; refine HC7b.out.mono ?_; rintro e w4 ⟨hb4, n1, s1, A1, la1, ca1, D1, lb1, cb1, rfl⟩)
                go_meet
                exact ⟨true, by rw [show (kd != 13) = !(kd == 13) from rfl, hkq]; rfl, HB13.out.trans (hb4.mono HB13.out.size), fun e => by cases e⟩
        case rest =>
          obtain ⟨q, rfl, hb2, hq⟩ := hcut
          obtain ⟨W2, hW2⟩ : ∃ W2, W2 = wc := ⟨_, rfl⟩
          subst hW2
          have hs2 := hb2.size
          have hbx2 := (hb2.block w.heap.size hs1).trans HX1.out
          have hbw2 := HB1.out.trans (hb2.mono (by omega))
          clear x0 x1 x2 x3 x4 xf
          have HBW2 := Lib.hid hbw2
          have HBX2 := Lib.hid hbx2
          have HQ := Lib.hid hq
          clear hb2 hbx2 hbw2 hq
          have sees : ∀ w9, Below w.heap.size w w9 → Calls Tryz.prog 8 #[] w9 fun e w' => e = .returned (.bool true) ∧ Below w9.heap.size w9 w' := fun w9 hb => HSE.out w9 (by have := hb.size; omega) (HU.out.keep (hb.mono hB)) (HTB.out.keep (hb.mono hB)) (HE.out.keep (hb.mono hB))
          have SEE := Lib.hid sees
          clear sees
          cases q with
          | true =>
            go_wp2_with (go_at_call 8; refine (SEE.out _ HBW2.out).mono ?_; rintro e w3 ⟨rfl, hb3⟩)
            go_ret
            exact ⟨rfl, HBW2.out.trans (hb3.mono HBW2.out.size)⟩
          | false =>
            have hio := HQ.out (by trivial)
            have HIO := Lib.hid hio
            obtain ⟨x0, x1, x2, x3, x4, xf⟩ := cells5 HBX2.out
            clear hio HQ
            go_upto_if 54 with fail
            obtain ⟨tt, htt⟩ : ∃ tt : Ty, tt = if ptr then .mk 12 0 ⟨#[]⟩ [innerT name] [] else innerT name := ⟨_, rfl⟩
            go_cut [] (fun wx => ∃ (k n : Int) (s : ByteArray) (A' : Option Addr) (la ca' : Nat) (D : Option Addr) (lb cb : Nat), Below W2.heap.size W2 wx ∧ wx.heap[W2.heap.size]? = some (.cells #[.string name, .string ⟨#[]⟩, .bool true, .int .i64 k, .int .i64 n, .string s, .slice A' la ca', .slice D lb cb] 32) ∧ TyV wx (· < wx.heap.size) tt [.int .i64 k, .int .i64 n, .string s, .slice A' la ca', .slice D lb cb])
            case first =>
              cases ptr with
              | false =>
                go_wp2
                go_meet
                have htt : tt = innerT name := htt
                subst htt
                exact ⟨14, 0, name, none, 0, 0, none, 0, 0, (Below.refl _ _).alloc (Nat.le_refl _) _, heap_alloc_new _ _, HTY.out _⟩
              | true =>
                have hwl : w.heap.size < W2.heap.size := by omega
                have hal := fun o => Below.heap_alloc W2 o w.heap.size hwl
                have z0 := fun o => (World.cell?_of_block (hal o)).trans x0
                have z1 := fun o => (World.cell?_of_block (hal o)).trans x1
                have z2 := fun o => (World.cell?_of_block (hal o)).trans x2
                have z3 := fun o => (World.cell?_of_block (hal o)).trans x3
                have z4 := fun o => (World.cell?_of_block (hal o)).trans x4
                clear hal
                go_wp2
                go_meet
                have htt : tt = .mk 12 0 ⟨#[]⟩ [innerT name] [] := htt
                subst htt
                exact ⟨12, 0, ⟨#[]⟩, some ⟨W2.heap.size + 1, 0, none⟩, 1, 1, none, 0, 0, ((Below.refl _ _).alloc (Nat.le_refl _) _).alloc (by simp) _, (Below.heap_alloc _ _ _ (by simp)).trans (heap_alloc_new _ _), ptr_tyv (heap_alloc_at (by simp) _) hnl⟩
            case rest =>
              obtain ⟨k, n, s, A', la, ca', D, lb, cb, hb3, hf3, ht3⟩ := hcut
              obtain ⟨W3, hW3⟩ : ∃ W3, W3 = wc := ⟨_, rfl⟩
              subst hW3
              have hs3 := hb3.size
              have hbw3 := HBW2.out.trans (hb3.mono HBW2.out.size)
              have hbx3 := (hb3.block w.heap.size (by omega)).trans HBX2.out
              clear x0 x1 x2 x3 x4 xf
              obtain ⟨x0, x1, x2, x3, x4, xf⟩ := cells5 hbx3
              have hname : NdOk l → name.size ≤ 100 := fun h => by
                cases hg : l.get name with
                | none =>
                  have := HIO.out.k13
                  unfold envT at this
                  rw [hg] at this
                  exact absurd this (by decide)
                | some T => exact (h.nm _ (get_mem l name T hg)).2
              have hnsz : name.size ≤ 1499 := by
                have := HIO.out.sz
                simp [Ty.sz, szs, szf, emp0] at this
                omega
              have hl' : ∀ w', Below w.heap.size w w' → NdV w' (· < w'.heap.size) l A 0 := fun w' hb => NdV.keep (fun b hb' => ⟨by have := hb.size; omega, hb.block b hb'⟩) _ _ _ HL.out
              have hc9 : ∀ w', Below w.heap.size w w' → ∀ (T : Ty) (cs : List Value), TyV w' (· < w'.heap.size) T cs → T.wf → T.sz ≤ 4000 → (NdOk l → T.sz ≤ 2000) → StrK l T → Calls Tryz.prog 9 #[.slice A l.length ca, .agg cs.toArray] w' (FiePost tgF U False w' l T) := fun w' hb T cs hT hwf h0 h1 hk =>
                theFields_any (fun B => tgF_c B) l A ca T cs w' (by have := hb.size; omega) (HU.out.keep (hb.mono hB)) (HTB.out.keep (hb.mono hB)) (HE.out.keep (hb.mono hB)) (hl' w' hb) HIO.out.nd (by have := HIO.out.len; omega) hT hwf h0 h1 hk (tyOfC_any HIO.out.nd (by have := HIO.out.len; omega) hwf h1)
              have hca := hc9 W3 hbw3 (innerT name) _ (HTY.out W3) inner_wf (by simp [Ty.sz, szs, szf, emp0]; omega) (fun h => by have := hname h; simp [Ty.sz, szs, szf, emp0]; omega) (.inr ⟨rfl, HIO.out.k13⟩)
              have HC9 := Lib.hid hc9
              have HCA := Lib.hid hca
              have HBW3 := Lib.hid hbw3
              have HBX3 := Lib.hid hbx3
              have HF3 := Lib.hid hf3
              have HT3 := Lib.hid ht3
              have HNM := Lib.hid hname
              have HTT := Lib.hid htt
              clear hb3 hf3 ht3 hbw3 hbx3 hl' hc9 hca hname htt
              go_upto_region 10 with (go_at_call 9; refine HCA.out.mono ?_; rintro e w4 hp; obtain ⟨A3, n3, cap3, a3, b3, P3, pn3, pc3, m3, o3, I3, k3, d3, has3, fc3, ln3, fm3, ft3, fs3, ff3, fg3, fh3, fi3, ok3, bad3, rfl⟩ := hp.form; have HP3 := Lib.hid hp; clear hp)
              have hx4 := HP3.out.ext
              have hs4 := hx4.size
              have hb34 : Below W3.heap.size W3 w4 := hx4.below (fun _ e => e.elim) (Nat.le_refl _)
              obtain ⟨W5, hW5⟩ : ∃ W5, W5 = (w4.alloc (.cells #[.string a3, .string b3, .slice P3 pn3 pc3, .int .i64 m3, .bool o3, .slice I3 k3 d3] 37)).alloc (.cells #[.int .i64 fc3, .int .i64 ln3, .string fm3, .string ft3, .string fs3, .string ff3, .string fg3, .string fh3, .string fi3] 39) := ⟨_, rfl⟩
              have hb45 : Below w4.heap.size w4 W5 := by rw [hW5]; exact ((Below.refl _ _).alloc (Nat.le_refl _) _).alloc (by simp) _
              have hi5 : W5.heap[w4.heap.size]? = some (.cells #[.string a3, .string b3, .slice P3 pn3 pc3, .int .i64 m3, .bool o3, .slice I3 k3 d3] 37) := by rw [hW5, Below.heap_alloc _ _ _ (by simp)]; exact heap_alloc_new _ _
              have hf5 : W5.heap[w4.heap.size + 1]? = some (.cells #[.int .i64 fc3, .int .i64 ln3, .string fm3, .string ft3, .string fs3, .string ff3, .string fg3, .string fh3, .string fi3] 39) := by rw [hW5]; exact heap_alloc_at (by simp) _
              have hs5 : w4.heap.size + 2 = W5.heap.size := by rw [hW5]; simp
              rw [← hW5]
              clear hW5
              have hb35 := hb34.trans (hb45.mono hs4)
              have hFl5 := (hb35.block W2.heap.size (by have := lt_cell (q_cells8 HF3.out).1; omega)).trans HF3.out
              obtain ⟨f0, f1, f2, f3, f4, f5, f6, f7, ff_⟩ := q_cells8 hFl5
              have hbw5 := HBW3.out.trans (hb35.mono HBW3.out.size)
              have ht5 : TyV W5 (· < W5.heap.size) tt _ := TyV.keep (fun b hb => ⟨by have := hb35.size; omega, hb35.block b hb⟩) _ _ HT3.out
              have ttwf : tt.wf ∧ tt.sz ≤ name.size + 2 := by
                have h := HTT.out
                cases ptr with
                | false =>
                  have h : tt = innerT name := h
                  subst h
                  exact ⟨inner_wf, by simp [Ty.sz, szs, szf, emp0]; omega⟩
                | true =>
                  have h : tt = .mk 12 0 ⟨#[]⟩ [innerT name] [] := h
                  subst h
                  refine ⟨?_, by simp [Ty.sz, szs, szf, emp0]; omega⟩
                  unfold Ty.wf
                  exact ⟨by decide, by simp, fun _ => rfl, ⟨inner_wf, trivial⟩, trivial⟩
              have T2wf : (Ty.mk 13 0 ⟨#[]⟩ [] [.mk name ⟨#[]⟩ true tt]).wf := by
                unfold Ty.wf
                exact ⟨by decide, by decide, fun h => absurd rfl h, trivial, ⟨ttwf.1, trivial⟩⟩
              have T2sz : (Ty.mk 13 0 ⟨#[]⟩ [] [.mk name ⟨#[]⟩ true tt]).sz ≤ 2 * name.size + 4 := by
                have := ttwf.2
                simp [Ty.sz, Fl.sz, szs, szf, emp0]
                omega
              have hcb : ∀ o, o = Obj.cells #[.string name, .string ⟨#[]⟩, .bool true, .int .i64 k, .int .i64 n, .string s, .slice A' la ca', .slice D lb cb] 32 → Calls Tryz.prog 9 #[.slice A l.length ca, .agg #[.int .i64 13, .int .i64 0, .string ⟨#[]⟩, .slice none 0 0, .slice (some ⟨W5.heap.size, 0, none⟩) 1 1]] (W5.alloc o) (FiePost tgF U False (W5.alloc o) l (.mk 13 0 ⟨#[]⟩ [] [.mk name ⟨#[]⟩ true tt])) := fun o ho => by
                subst ho
                have hbo := (Below.refl W5.heap.size W5).alloc (Nat.le_refl _) (Obj.cells #[.string name, .string ⟨#[]⟩, .bool true, .int .i64 k, .int .i64 n, .string s, .slice A' la ca', .slice D lb cb] 32)
                exact HC9.out _ (hbw5.trans (hbo.mono hbw5.size)) _ [.int .i64 13, .int .i64 0, .string ⟨#[]⟩, .slice none 0 0, .slice (some ⟨W5.heap.size, 0, none⟩) 1 1] (str_tyv (heap_alloc_new _ _) hnl (TyV.keep (fun b hb => ⟨by have := hbo.size; omega, hbo.block b hb⟩) _ _ ht5)) T2wf (by omega) (fun h => by have := HNM.out h; omega) (.inl rfl)
              have hcb := hcb _ rfl
              have HCB := Lib.hid hcb
              have HI5 := Lib.hid hi5
              have HFT5 := Lib.hid hf5
              have HB45 := Lib.hid hb45
              have HBW5 := Lib.hid hbw5
              clear hx4 hb34 hb45 hi5 hf5 hb35 hFl5 hbw5 ht5 ttwf T2wf T2sz hcb HC9 HCA
              go_upto_region 11 with (go_at_call 9; refine HCB.out.mono ?_; rintro e w7 hp; obtain ⟨A4, n4, cap4, a4, b4, P4, pn4, pc4, m4, o4, I4, k4, d4, has4, fc4, ln4, fm4, ft4, fs4, ff4, fg4, fh4, fi4, ok4, bad4, rfl⟩ := hp.form; have HP4 := Lib.hid hp; clear hp)
              have hs7 := HP4.out.ext.size
              simp only [World.size_alloc] at hs7
              have hb57 : Below W5.heap.size W5 w7 := ((Below.refl _ _).alloc (Nat.le_refl _) _).trans ((HP4.out.ext.below (fun _ e => e.elim) (Nat.le_refl _)).mono (by simp))
              obtain ⟨W8, hW8⟩ : ∃ W8, W8 = (w7.alloc (.cells #[.string a4, .string b4, .slice P4 pn4 pc4, .int .i64 m4, .bool o4, .slice I4 k4 d4] 37)).alloc (.cells #[.int .i64 fc4, .int .i64 ln4, .string fm4, .string ft4, .string fs4, .string ff4, .string fg4, .string fh4, .string fi4] 39) := ⟨_, rfl⟩
              have hb78 : Below w7.heap.size w7 W8 := by rw [hW8]; exact ((Below.refl _ _).alloc (Nat.le_refl _) _).alloc (by simp) _
              have hi8 : W8.heap[w7.heap.size]? = some (.cells #[.string a4, .string b4, .slice P4 pn4 pc4, .int .i64 m4, .bool o4, .slice I4 k4 d4] 37) := by rw [hW8, Below.heap_alloc _ _ _ (by simp)]; exact heap_alloc_new _ _
              have hf8 : W8.heap[w7.heap.size + 1]? = some (.cells #[.int .i64 fc4, .int .i64 ln4, .string fm4, .string ft4, .string fs4, .string ff4, .string fg4, .string fh4, .string fi4] 39) := by rw [hW8]; exact heap_alloc_at (by simp) _
              have hs8 : w7.heap.size + 2 = W8.heap.size := by rw [hW8]; simp
              rw [← hW8]
              clear hW8
              have hb58 := hb57.trans (hb78.mono (by omega))
              have hi58 := (hb58.block w4.heap.size (by omega)).trans HI5.out
              have hf58 := (hb58.block (w4.heap.size + 1) (by omega)).trans HFT5.out
              have hbw8 := HBW5.out.trans (hb58.mono HBW5.out.size)
              have hb48 := HB45.out.trans (hb58.mono HB45.out.size)
              have HB48 := Lib.hid hb48
              have HB78 := Lib.hid hb78
              have HBW8 := Lib.hid hbw8
              have HI8 := Lib.hid hi8
              have HF8 := Lib.hid hf8
              have HI58 := Lib.hid hi58
              have HF58 := Lib.hid hf58
              clear hb57 hb78 hi8 hf8 hb58 hi58 hf58 hbw8 hb48 x0 x1 x2 x3 x4 xf f0 f1 f2 f3 f4 f5 f6 f7 ff_ HCB
              by_cases hbad : (bad3 || bad4) = true
              · cases bad3 with
                | true =>
                  go_wp2_with (go_at_call 8; refine (SEE.out _ HBW8.out).mono ?_; rintro e w9 ⟨rfl, hb9⟩)
                  go_ret
                  exact ⟨rfl, HBW8.out.trans (hb9.mono HBW8.out.size)⟩
                | false =>
                  have hbad4 : bad4 = true := hbad
                  subst hbad4
                  go_wp2_with (go_at_call 8; refine (SEE.out _ HBW8.out).mono ?_; rintro e w9 ⟨rfl, hb9⟩)
                  go_ret
                  exact ⟨rfl, HBW8.out.trans (hb9.mono HBW8.out.size)⟩
              · simp only [Bool.or_eq_true, not_or, Bool.not_eq_true] at hbad
                obtain ⟨rfl, rfl⟩ := hbad
                obtain ⟨⟨rfl, rfl, rfl, rfl⟩, hn1, hres⟩ := inner_laws (g3 := [_, _, _, _, _, _, _, _]) (g4 := [_, _, _, _, _, _, _, _]) HIO.out.k13 HP3.out HP4.out
                have hnm : has3 = true → a3 = a4 ∧ b3 = b4 := fun h => by
                  rcases hres with ⟨h2, _⟩ | ⟨t, _, hh, _, _, _, hxn⟩
                  · rw [h2] at h; cases h
                  · cases hx : t.xn with
                    | none => rw [hx, h] at hh; cases hh
                    | some x =>
                      obtain ⟨⟨_, _, q1, _⟩, ⟨_, _, q2, _⟩⟩ := hxn x hx
                      simp at q1 q2
                      exact ⟨by rw [q1.1, q2.1], by rw [q1.2.1, q2.2.1]⟩
                have hrows : ∀ j, j < n3 → ∃ (x : Fx) (ga gb : Nat) (va vb : List Value), x.idx ≠ [] ∧ A3 = some ⟨ga, 0, none⟩ ∧ A4 = some ⟨gb, 0, none⟩ ∧ InfV W8 va x ∧ InfV W8 vb ⟨x.fi, 0 :: x.idx⟩ ∧ (∀ (k : Nat) (u : Value), va[k]? = some u → W8.cell? ⟨ga, j * 6 + k, none⟩ = some u) ∧ ∀ (k : Nat) (u : Value), vb[k]? = some u → W8.cell? ⟨gb, j * 6 + k, none⟩ = some u := fun j hj => by
                  rcases hres with ⟨_, h2⟩ | ⟨t, hn, _, hr3, hr4, hne, _⟩
                  · omega
                  · obtain ⟨x, hx⟩ : ∃ x, t.fs[j]? = some x := ⟨_, List.getElem?_eq_getElem (by omega)⟩
                    obtain ⟨ga, va, q1, q2, q3⟩ := hr3 j x hx
                    obtain ⟨gb, vb, r1, r2, r3⟩ := hr4 j ⟨x.fi, 0 :: x.idx⟩ (by simp [hx])
                    exact ⟨x, ga, gb, va, vb, hne x (List.mem_of_getElem? hx), q1, r1, q2.keep HB48.out.block, r2.keep HB78.out.block, fun k u e => (World.cell?_of_block (HB48.out.block ga (lt_cell (q3 k u e)))).trans (q3 k u e), fun k u e => (World.cell?_of_block (HB78.out.block gb (lt_cell (r3 k u e)))).trans (r3 k u e)⟩
                have HNM := Lib.hid hnm
                have HRWS := Lib.hid hrows
                clear HP3 HP4 hres hnm hrows
                go_upto_region 13 with fail
                go_cut [124] (fun s124 wx => s124 = .bool false ∧ W8 = wx)
                case first =>
                  obtain ⟨u0, u1, u2, u3, u4, u5, uf⟩ := cells6 HI58.out
                  obtain ⟨v0, v1, v2, v3, v4, v5, v6, v7, v8, vf⟩ := cells9 HF58.out
                  obtain ⟨y0, y1, y2, y3, y4, y5, yf⟩ := cells6 HI8.out
                  obtain ⟨z0, z1, z2, z3, z4, z5, z6, z7, z8, zf⟩ := cells9 HF8.out
                  cases has3 with
                  | false =>
                    go_wp2_with fail
                    go_meet
                    exact ⟨rfl, rfl⟩
                  | true =>
                    obtain ⟨rfl, rfl⟩ := HNM.out rfl
                    go_wp2_with fail
                    go_meet
                    exact ⟨rfl, rfl⟩
                case rest =>
                  obtain ⟨rfl, rfl⟩ := hcut
                  go_wp2_with fail
                  refine inner_loop (W8 := W8) hn1 HRWS.out _ _ ?_
                  intro u6 u22 u125 u126 u127 u128 u129 u130 u131 u132 u133 u134 u135 u136 u137 u138 u139 u140 u141 u142 u143 u144 u145 u146 u147 u148 u149 u150 u151 u152 u153 u154 u155 u156 u157 u158 u159 u160 u161 u162 u163 u164 u165 u166 u167 u168 u169 u170 u171 u172 u173 u174 u175 u176 u177 u178 u179 u180 u181 u182 u183 u184 u185 u186 u187 u188 u189 u190 u191 u192 u193 u194 u195 u196 u197 u198 u199 V hb
                  have hbV := HBW8.out.trans (hb.mono HBW8.out.size)
                  go_wp2_with (go_at_call 8; refine (SEE.out _ hbV).mono ?_; rintro e w9 ⟨rfl, hb9⟩)
                  go_ret
                  exact ⟨rfl, hbV.trans (hb9.mono hbV.size)⟩
end Go.Proofs.YtnmgocbmofbppaaGreatDoor
