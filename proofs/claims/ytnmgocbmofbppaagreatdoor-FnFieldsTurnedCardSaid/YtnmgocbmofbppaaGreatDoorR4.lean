/- FnFieldsTurned: the whole walk. -/
import Derived.Test.YtnmgocbmofbppaaGreatDoorA35
import Derived.Test.YtnmgocbmofbppaaGreatDoorA29
import Derived.Test.YtnmgocbmofbppaaGreatDoorA13
import Derived.Test.YtnmgocbmofbppaaGreatDoorY3
import Derived.Test.YtnmgocbmofbppaaGreatDoorA12
import Derived.Test.YtnmgocbmofbppaaGreatDoorA18
import Derived.Test.YtnmgocbmofbppaaGreatDoorL4
import Derived.Test.YtnmgocbmofbppaaGreatDoorR1
import Derived.Test.YtnmgocbmofbppaaGreatDoorR3

set_option linter.unusedVariables false
set_option linter.unusedSimpArgs false

namespace Go.Proofs.YtnmgocbmofbppaaGreatDoor
open Go.RowKit

/-- What the law asks of its arguments. -/
structure TurnOk (l : AL Ty) (fs : List Fl) : Prop where
  len : l.length ≤ 10
  nd : NdSz l
  kd : ∀ p ∈ l, NdKind p.2.kind
  sz : (strT fs).sz ≤ 1500
  emb : ∀ f ∈ fs, f.emb = false
  wf : (strT fs).wf
  pos : 0 < fs.length
  most : fs.length ≤ 12
theorem rowsI_keep {w w' : World} {A : Option Addr} {fs : List Fx} (h : RowsI w A fs) (hb : ∀ b, b < w.heap.size → w'.heap[b]? = w.heap[b]?) : RowsI w' A fs := fun i x e => by
  obtain ⟨g, vs, h1, h2, h3⟩ := h i x e
  exact ⟨g, vs, h1, h2.keep hb, fun k u e2 => (World.cell?_of_block (hb g (lt_cell (h3 k u e2)))).trans (h3 k u e2)⟩
theorem apart_rows {W : World} {A : Option Addr} {fs : List Fx} {c m n : Nat} (hn : n = fs.length) (hr : RowsI W A fs) (h1 : ∀ x ∈ fs, ∃ i, i < m ∧ x.idx = [i]) (hl : n ≤ 1000000) : Calls Tryz.prog 13 #[.slice A n c] W fun e w' => e = .returned (.bool true) ∧ W = w' := by
  have h := apart_any (fs.map fun x => x.idx.length) A c W (by simp; omega) (fun k hk => by
      obtain ⟨x, hx, rfl⟩ := List.mem_map.1 hk
      obtain ⟨i, _, hi⟩ := h1 x hx
      rw [hi]; simp) (fun j k e => by
      rw [List.getElem?_map] at e
      cases hx : fs[j]? with
      | none => rw [hx] at e; cases e
      | some x =>
        rw [hx] at e
        obtain rfl := Option.some.inj e
        obtain ⟨g, vs, hA, hv, hc⟩ := hr j x hx
        obtain ⟨_, _, rfl, _, ⟨ib, ic, rfl, _⟩, _⟩ := hv
        exact ⟨g, 0, some ⟨ib, 0, none⟩, ic, hA, by rw [Nat.zero_add]; exact hc 5 _ rfl⟩)
  rw [List.length_map, ← hn] at h
  refine h.mono fun e w' ⟨h2, h3⟩ => ⟨?_, h3⟩
  rw [h2]
  have ht : (fs.map fun x => x.idx.length).all (fun n => n == 1) = true := by
    rw [List.all_eq_true]
    intro k hk
    obtain ⟨x, hx, rfl⟩ := List.mem_map.1 hk
    obtain ⟨i, _, hi⟩ := h1 x hx
    rw [hi]; rfl
  rw [ht]
theorem turn_wf {n : Nat} {fs : List Fl} (h : (strT fs).wf) (h2 : (strT fs).sz ≤ 1500) : (strT (turn n fs)).wf ∧ (strT (turn n fs)).sz ≤ 1500 := by
  unfold Ty.wf at h ⊢
  obtain ⟨k1, k2, k3, k4, k5⟩ := h
  have hw : wff (fs.take n ++ fs.drop n) := by rw [List.take_append_drop]; exact k5
  rw [wff_append] at hw
  refine ⟨⟨k1, k2, fun e => absurd rfl e, k4, ?_⟩, ?_⟩
  · unfold turn
    rw [wff_append]
    exact hw.symm
  · have hs : szf (fs.take n ++ fs.drop n) = szf fs := by rw [List.take_append_drop]
    rw [szf_append] at hs
    unfold strT Ty.sz at h2 ⊢
    unfold turn
    rw [szf_append]
    omega
set_option maxHeartbeats 16000000 in
set_option maxRecDepth 100000 in
theorem turned_any {U : Lib.RTab} {B : Nat} (hS : SeesC U B) (l : AL Ty) (A : Option Addr) (ca : Nat) (fs : List Fl) (D : Option Addr) (cd : Nat) (y : Int) (hy0 : 0 ≤ y) (hy1 : y ≤ 255) (w : World) (hB : B ≤ w.heap.size) (hU : Uni U B w) (hTb : Tabs B w) (hE : EofC B w) (hl : NdV w (· < w.heap.size) l A 0) (hll : l.length ≤ big) (hfs : FlsV w (· < w.heap.size) fs D 0) (hfl : fs.length ≤ big) :
    Calls Tryz.prog 4 #[.slice A l.length ca, .slice D fs.length cd, .int .u8 y] w fun e w' => e = .returned (.bool true) ∧ Below w.heap.size w w' := by
  have HSE := Lib.hid hS
  have HU := Lib.hid hU
  have HTB := Lib.hid hTb
  have HE := Lib.hid hE
  have HL := Lib.hid hl
  have HFS := Lib.hid hfs
  clear hS hU hTb hE hl hfs
  by_cases g1 : 2147483647 < l.length
  · have g1z : (2147483647 : Int) < (l.length : Int) := by omega
    go_enter Tryz.func4, Tryz.ntmps4
    go_wp2
    go_ret
    exact ⟨rfl, Below.refl _ _⟩
  · have g1z : ¬ (2147483647 : Int) < (l.length : Int) := by omega
    by_cases g2 : 2147483647 < fs.length
    · have g2z : (2147483647 : Int) < (fs.length : Int) := by omega
      go_enter Tryz.func4, Tryz.ntmps4
      go_wp2
      go_ret
      exact ⟨rfl, Below.refl _ _⟩
    · have g2z : ¬ (2147483647 : Int) < (fs.length : Int) := by omega
      go_enter Tryz.func4, Tryz.ntmps4
      go_upto_region 3 with fail
      go_cut [7] from 35 to 36 (fun s7 wx => s7 = .pointer (some ⟨w.heap.size, 0, none⟩) ∧ Below w.heap.size w wx ∧ wx.heap[w.heap.size]? = some (.cells #[.int .i64 13, .int .i64 0, .string ⟨#[]⟩, .slice none 0 0, .slice D fs.length cd] 26))
      case first =>
        go_wp2
        go_meet
        exact ⟨rfl, (Below.refl _ _).alloc (Nat.le_refl _) _, heap_alloc_new _ _⟩
      case rest =>
        obtain ⟨rfl, hb1, hx1⟩ := hcut
        obtain ⟨x0, x1, x2, x3, x4, xf⟩ := q_cells5 hx1
        have hs1 : w.heap.size < wc.heap.size := lt_cell x0
        have hfw : ∀ w', Below w.heap.size w w' → FlsV w' (· < w'.heap.size) fs D 0 := fun w' hb => FlsV.keep (fun b hb' => ⟨by have := hb.size; omega, hb.block b hb'⟩) _ _ _ HFS.out
        have HFW := Lib.hid hfw
        have HB1 := Lib.hid hb1
        have HX1 := Lib.hid hx1
        clear hb1 hx1 hfw
        obtain ⟨W1, hW1⟩ : ∃ W1, W1 = wc := ⟨_, rfl⟩
        subst hW1
        go_upto_region 4 with fail
        go_cut [60] from 37 to 59 (fun s60 wx => ∃ q, s60 = .bool q ∧ Below W1.heap.size W1 wx ∧ (q = false → TurnOk l fs))
        case first =>
          by_cases g3 : 10 < l.length
          · have g3z : (10 : Int) < (l.length : Int) := by omega
            go_wp2
            go_meet
            exact ⟨true, rfl, Below.refl _ _, fun e => by cases e⟩
          · have g3z : ¬ (10 : Int) < (l.length : Int) := by omega
            by_cases g4 : fs.length = 0
            · have hfz : fs = [] := List.eq_nil_of_length_eq_zero g4
              subst hfz
              go_wp2
              go_meet
              exact ⟨true, rfl, Below.refl _ _, fun e => by cases e⟩
            · have g4z : ((fs.length : Int) == 0) = false := by rw [beq_eq_false_iff_ne]; omega
              clear g4
              have g4p : 0 < fs.length := by have h := beq_eq_false_iff_ne.1 g4z; omega
              by_cases g5 : 12 < fs.length
              · have g5z : (12 : Int) < (fs.length : Int) := by omega
                go_wp2
                go_meet
                exact ⟨true, rfl, Below.refl _ _, fun e => by cases e⟩
              · have g5z : ¬ (12 : Int) < (fs.length : Int) := by omega
                have hce := embeds_any fs D cd W1 (· < W1.heap.size) (by omega) (HFW.out W1 HB1.out)
                have htv : TyV W1 (· < W1.heap.size) (strT fs) [.int .i64 13, .int .i64 0, .string ⟨#[]⟩, .slice none 0 0, .slice D fs.length cd] := ⟨none, 0, D, cd, rfl, ⟨by decide, by simp [big], hfl⟩, trivial, HFW.out W1 HB1.out⟩
                have hc6 := typeLeft_any (strT fs).sz (strT fs) _ 1500 W1 (Nat.le_refl _) htv (by decide) (by decide)
                have hc5 : ∀ w2 r1, Below W1.heap.size W1 w2 → -140737488351232 ≤ r1 → r1 ≤ 1500 → Calls Tryz.prog 5 #[.slice A l.length ca, .int .i64 r1] w2 _ := fun w2 r1 hb h0 h1 => typesLeft_any l A ca r1 w2 (by omega) h0 h1 (NdV.keep (fun b hb' => ⟨by have := HB1.out.size; have := hb.size; omega, (hb.block b (by have := HB1.out.size; omega)).trans (HB1.out.block b hb')⟩) _ _ _ HL.out)
                obtain ⟨qe, hqe⟩ : ∃ qe, fs.any Fl.emb = qe := ⟨_, rfl⟩
                rw [hqe] at hce
                have HQE := Lib.hid hqe
                have HCE := Lib.hid hce
                have HC6 := Lib.hid hc6
                have HC5 := Lib.hid hc5
                clear hqe hce hc6 hc5 htv
                cases qe with
                | true =>
                  go_wp2_with (go_at_call 12; refine HCE.out.mono ?_; rintro e w2 ⟨rfl, rfl⟩)
                  go_meet
                  exact ⟨true, rfl, Below.refl _ _, fun e => by cases e⟩
                | false =>
                  go_wp2_with (first
                    | (go_at_call 12; refine HCE.out.mono ?_; rintro e w2 ⟨rfl, rfl⟩)
                    | (go_at_call 5; refine (HC5.out w2 r1 hb2 hr1.1 hr1.2).mono ?_; rintro e w3 ⟨r2, rfl, hr2, hb3⟩; refine Hid.out ?_)
                    | (go_at_call 6; refine HC6.out.mono ?_; rintro e w2 ⟨r1, rfl, hr1, hr1', hb2⟩))
                  have hb13 := hb2.trans (hb3.mono hb2.size)
                  have HB13 := Lib.hid hb13
                  have HR1 := Lib.hid hr1'
                  have HR2 := Lib.hid hr2
                  clear hb2 hb3 hb13 hr1 hr1' hr2 x0 x1 x2 x3 x4 xf
                  by_cases h2 : r2 < 0
                  · refine Lib.hid ?_
                    go_wp2_with fail
                    go_meet
                    exact ⟨true, rfl, HB13.out, fun e => by cases e⟩
                  · obtain ⟨hnd, hkd, hl0⟩ := HR2.out (by omega)
                    obtain ⟨hwf, hsum⟩ := HR1.out hl0
                    have hem : ∀ f ∈ fs, f.emb = false := fun f hf => by
                      cases he : f.emb with
                      | false => rfl
                      | true =>
                        have : fs.any Fl.emb = true := List.any_eq_true.2 ⟨f, hf, he⟩
                        rw [HQE.out] at this
                        cases this
                    have HEM := Lib.hid hem
                    have HND := Lib.hid hnd
                    have HKD := Lib.hid hkd
                    have HWF := Lib.hid hwf
                    clear hem hnd hkd hwf
                    refine Lib.hid ?_
                    go_wp2_with fail
                    go_meet
                    exact ⟨false, rfl, HB13.out, fun _ => ⟨by omega, HND.out, HKD.out, by omega, HEM.out, HWF.out, g4p, by omega⟩⟩
        case rest =>
          obtain ⟨q, rfl, hb2, hq⟩ := hcut
          obtain ⟨W2, hW2⟩ : ∃ W2, W2 = wc := ⟨_, rfl⟩
          subst hW2
          have hs2 := hb2.size
          have hbx2 := (hb2.block w.heap.size hs1).trans HX1.out
          have hbw2 := HB1.out.trans (hb2.mono (by omega))
          clear x0 x1 x2 x3 x4 xf
          have HBW2 := Lib.hid hbw2
          have HBX2 := Lib.hid hbx2
          have HQ := Lib.hid hq
          clear hb2 hbx2 hbw2 hq
          have sees : ∀ w9, Below w.heap.size w w9 → Calls Tryz.prog 8 #[] w9 fun e w' => e = .returned (.bool true) ∧ Below w9.heap.size w9 w' := fun w9 hb => HSE.out w9 (by have := hb.size; omega) (HU.out.keep (hb.mono hB)) (HTB.out.keep (hb.mono hB)) (HE.out.keep (hb.mono hB))
          have SEE := Lib.hid sees
          clear sees
          cases q with
          | true =>
            go_wp2_with (go_at_call 8; refine (SEE.out _ HBW2.out).mono ?_; rintro e w3 ⟨rfl, hb3⟩)
            go_ret
            exact ⟨rfl, HBW2.out.trans (hb3.mono HBW2.out.size)⟩
          | false =>
            have hto := HQ.out (by trivial)
            have hpos := hto.pos
            have hmost := hto.most
            have HTO := Lib.hid hto
            clear hto HQ
            obtain ⟨n, hn⟩ : ∃ n : Nat, n = y.toNat % fs.length := ⟨_, rfl⟩
            have hnl : n < fs.length := by rw [hn]; exact Nat.mod_lt _ hpos
            have hnz : (y % (fs.length : Int)) = (n : Int) := by
              rw [hn, Int.natCast_emod, Int.toNat_of_nonneg hy0]
            have HNZ := Lib.hid hnz
            clear hn hnz
            go_upto_region 8 with fail
            rw [HNZ.out]
            go_wp2_with fail
            refine turn_loop (W := W2) (fs := fs) (n := n) A l.length ca w.heap.size hpos hmost hnl (HFW.out _ HBW2.out) rfl _ _ ?_
            intro u68 u69 u70 u71 u72 u73 u74 u75 u76 u77 u78 u79 u80 u81 u82 u83 u84 u85 u86 u87 V v dss hst hdl
            have hts : dss.length = (turn n fs).length := hdl.trans turn_len.symm
            obtain ⟨D2, cap2, rfl, hfl2⟩ := hst.whole hts
            have hbwV := HBW2.out.trans (hst.below.mono HBW2.out.size)
            have hxV := (hst.below.block w.heap.size (by omega)).trans HBX2.out
            have houtV := hst.out
            obtain ⟨x0, x1, x2, x3, x4, xf⟩ := q_cells5 hxV
            obtain ⟨z0, z1, z2, z3, z4, zf⟩ := q_cells5 houtV
            have hl' : ∀ w', Below w.heap.size w w' → NdV w' (· < w'.heap.size) l A 0 := fun w' hb => NdV.keep (fun b hb' => ⟨by have := hb.size; omega, hb.block b hb'⟩) _ _ _ HL.out
            have hc9 : ∀ w', Below w.heap.size w w' → ∀ (T : Ty) (cs : List Value), TyV w' (· < w'.heap.size) T cs → T.wf → T.sz ≤ 1500 → StrK l T → Calls Tryz.prog 9 #[.slice A l.length ca, .agg cs.toArray] w' (FiePost tgF U False w' l T) := fun w' hb T cs hT hwf h0 hk =>
              theFields_any (fun B => tgF_c B) l A ca T cs w' (by have := hb.size; omega) (HU.out.keep (hb.mono hB)) (HTB.out.keep (hb.mono hB)) (HE.out.keep (hb.mono hB)) (hl' w' hb) HTO.out.nd (by have := HTO.out.len; omega) hT hwf (by omega) (fun _ => by omega) hk (tyOfC_any HTO.out.nd (by have := HTO.out.len; omega) hwf (fun _ => by omega))
            have hca := hc9 V hbwV (strT fs) [.int .i64 13, .int .i64 0, .string ⟨#[]⟩, .slice none 0 0, .slice D fs.length cd] ⟨none, 0, D, cd, rfl, ⟨by decide, by simp [big], hfl⟩, trivial, HFW.out V hbwV⟩ HTO.out.wf HTO.out.sz (.inl rfl)
            have htw : (strT (turn n fs)).wf ∧ (strT (turn n fs)).sz ≤ 1500 := turn_wf HTO.out.wf HTO.out.sz
            have hcb : ∀ w', Below V.heap.size V w' → Calls Tryz.prog 9 #[.slice A l.length ca, .agg #[.int .i64 13, .int .i64 0, .string ⟨#[]⟩, .slice none 0 0, .slice D2 (turn n fs).length cap2]] w' (FiePost tgF U False w' l (strT (turn n fs))) := fun w' hb =>
              hc9 w' (hbwV.trans (hb.mono hbwV.size)) (strT (turn n fs)) [.int .i64 13, .int .i64 0, .string ⟨#[]⟩, .slice none 0 0, .slice D2 (turn n fs).length cap2] ⟨none, 0, D2, cap2, rfl, ⟨by decide, by simp [big], by rw [turn_len]; exact hfl⟩, trivial, FlsV.keep (fun b hb' => ⟨by have := hb.size; omega, hb.block b hb'⟩) _ _ _ hfl2⟩ htw.1 htw.2 (.inl rfl)
            have HCA := Lib.hid hca
            have HCB := Lib.hid hcb
            have HBWV := Lib.hid hbwV
            have HOUT := Lib.hid houtV
            have hsV : W2.heap.size < V.heap.size := by have := hst.size; omega
            clear hts hst hdl hfl2 hbwV hxV houtV hl' hc9 hca hcb htw
            go_upto_region 13 with (go_at_call 9; refine HCA.out.mono ?_; rintro e w4 hp; obtain ⟨A3, n3, cap3, a3, b3, P3, pn3, pc3, m3, o3, I3, k3, d3, has3, fc3, ln3, fm3, ft3, fs3, ff3, fg3, fh3, fi3, ok3, bad3, rfl⟩ := hp.form; have HP3 := Lib.hid hp; clear hp)
            have hx4 := HP3.out.ext
            have hs4 := hx4.size
            have hbV4 : Below V.heap.size V w4 := hx4.below (fun _ e => e.elim) (Nat.le_refl _)
            obtain ⟨W5, hW5⟩ : ∃ W5, W5 = (w4.alloc (.cells #[.string a3, .string b3, .slice P3 pn3 pc3, .int .i64 m3, .bool o3, .slice I3 k3 d3] 37)).alloc (.cells #[.int .i64 fc3, .int .i64 ln3, .string fm3, .string ft3, .string fs3, .string ff3, .string fg3, .string fh3, .string fi3] 39) := ⟨_, rfl⟩
            have hb45 : Below w4.heap.size w4 W5 := by rw [hW5]; exact ((Below.refl _ _).alloc (Nat.le_refl _) _).alloc (by simp) _
            have hi5 : W5.heap[w4.heap.size]? = some (.cells #[.string a3, .string b3, .slice P3 pn3 pc3, .int .i64 m3, .bool o3, .slice I3 k3 d3] 37) := by rw [hW5, Below.heap_alloc _ _ _ (by simp)]; exact heap_alloc_new _ _
            have hs5 : w4.heap.size + 2 = W5.heap.size := by rw [hW5]; simp
            rw [← hW5]
            clear hW5
            have hbV5 := hbV4.trans (hb45.mono hs4)
            have hbw5 := HBWV.out.trans (hbV5.mono HBWV.out.size)
            have hout5 := (hbV5.block W2.heap.size hsV).trans HOUT.out
            clear x0 x1 x2 x3 x4 xf z0 z1 z2 z3 z4 zf
            obtain ⟨z0, z1, z2, z3, z4, zf⟩ := q_cells5 hout5
            have hcb5 := HCB.out W5 hbV5
            have HCB5 := Lib.hid hcb5
            have HI5 := Lib.hid hi5
            have HB45 := Lib.hid hb45
            have HBW5 := Lib.hid hbw5
            clear hx4 hbV4 hb45 hi5 hbV5 hbw5 hout5 hcb5 HCA
            go_upto_region 14 with (go_at_call 9; refine HCB5.out.mono ?_; rintro e w7 hp; obtain ⟨A4, n4, cap4, a4, b4, P4, pn4, pc4, m4, o4, I4, k4, d4, has4, fc4, ln4, fm4, ft4, fs4, ff4, fg4, fh4, fi4, ok4, bad4, rfl⟩ := hp.form; have HP4 := Lib.hid hp; clear hp)
            have hs7 := HP4.out.ext.size
            have hb57 : Below W5.heap.size W5 w7 := HP4.out.ext.below (fun _ e => e.elim) (Nat.le_refl _)
            obtain ⟨W8, hW8⟩ : ∃ W8, W8 = (w7.alloc (.cells #[.string a4, .string b4, .slice P4 pn4 pc4, .int .i64 m4, .bool o4, .slice I4 k4 d4] 37)).alloc (.cells #[.int .i64 fc4, .int .i64 ln4, .string fm4, .string ft4, .string fs4, .string ff4, .string fg4, .string fh4, .string fi4] 39) := ⟨_, rfl⟩
            have hb78 : Below w7.heap.size w7 W8 := by rw [hW8]; exact ((Below.refl _ _).alloc (Nat.le_refl _) _).alloc (by simp) _
            have hi8 : W8.heap[w7.heap.size]? = some (.cells #[.string a4, .string b4, .slice P4 pn4 pc4, .int .i64 m4, .bool o4, .slice I4 k4 d4] 37) := by rw [hW8, Below.heap_alloc _ _ _ (by simp)]; exact heap_alloc_new _ _
            have hs8 : w7.heap.size + 2 = W8.heap.size := by rw [hW8]; simp
            rw [← hW8]
            clear hW8
            have hb58 := hb57.trans (hb78.mono (by omega))
            have hi58 := (hb58.block w4.heap.size (by omega)).trans HI5.out
            have hbw8 := HBW5.out.trans (hb58.mono HBW5.out.size)
            have hb48 := HB45.out.trans (hb58.mono HB45.out.size)
            have HB48 := Lib.hid hb48
            have HB78 := Lib.hid hb78
            have HBW8 := Lib.hid hbw8
            have HI8 := Lib.hid hi8
            have HI58 := Lib.hid hi58
            clear hb57 hb78 hi8 hb58 hi58 hbw8 hb48 z0 z1 z2 z3 z4 zf HCB5
            by_cases hbad : (bad3 || bad4) = true
            · cases bad3 with
              | true =>
                go_wp2_with (go_at_call 8; refine (SEE.out _ HBW8.out).mono ?_; rintro e w9 ⟨rfl, hb9⟩)
                go_ret
                exact ⟨rfl, HBW8.out.trans (hb9.mono HBW8.out.size)⟩
              | false =>
                have hbad4 : bad4 = true := hbad
                subst hbad4
                go_wp2_with (go_at_call 8; refine (SEE.out _ HBW8.out).mono ?_; rintro e w9 ⟨rfl, hb9⟩)
                go_ret
                exact ⟨rfl, HBW8.out.trans (hb9.mono HBW8.out.size)⟩
            · simp only [Bool.or_eq_true, not_or, Bool.not_eq_true] at hbad
              obtain ⟨rfl, rfl⟩ := hbad
              obtain ⟨⟨rfl, rfl, rfl⟩, hn1, hres⟩ := turned_laws hnl HTO.out.emb HP3.out HP4.out
              have hnm : has3 = true → a3 = a4 ∧ b3 = b4 := fun h => by
                rcases hres with ⟨h2, _⟩ | ⟨t, t', _, _, hh, _, _, _, _, _, hxs, hxn⟩
                · rw [h2] at h; cases h
                · cases hx : t.xn with
                  | none => rw [hx, h] at hh; cases hh
                  | some x =>
                    cases hy : t'.xn with
                    | none => rw [hx, hy] at hxs; cases hxs
                    | some y =>
                      obtain ⟨hfi, ⟨_, _, q1, _⟩, ⟨_, _, q2, _⟩⟩ := hxn x y hx hy
                      simp at q1 q2
                      exact ⟨by rw [q1.1, q2.1, hfi], by rw [q1.2.1, q2.2.1, hfi]⟩
              obtain ⟨ta, tb, hla, hlb, hra, hrb, hia, hib, hhit⟩ : ∃ ta tb : List Fx, n3 = ta.length ∧ n3 = tb.length ∧ RowsI W8 A3 ta ∧ RowsI W8 A4 tb ∧ (∀ x ∈ ta, ∃ i, i < fs.length ∧ x.idx = [i]) ∧ (∀ x ∈ tb, ∃ i, i < fs.length ∧ x.idx = [i]) ∧ ∀ x ∈ ta, ∃ y ∈ tb, hitF n fs.length x y := by
                rcases hres with ⟨_, h2⟩ | ⟨t, t', h1, h2, _, h3, h4, h5, h6, h7, _, _⟩
                · exact ⟨[], [], h2, h2, fun i x e => by simp at e, fun i x e => by simp at e, by simp, by simp, by simp⟩
                · exact ⟨t.fs, t'.fs, h1, h2, rowsI_keep h3 HB48.out.block, rowsI_keep h4 HB78.out.block, h5, h6, h7⟩
              have hap3 := apart_rows (c := cap3) hla hra hia hn1
              have hap4 := apart_rows (c := cap4) hlb hrb hib hn1
              have HNM := Lib.hid hnm
              have HAP3 := Lib.hid hap3
              have HAP4 := Lib.hid hap4
              have HLA := Lib.hid hla
              have HLB := Lib.hid hlb
              have HRA := Lib.hid hra
              have HRB := Lib.hid hrb
              have HIA := Lib.hid hia
              have HIB := Lib.hid hib
              have HHIT := Lib.hid hhit
              clear HP3 HP4 hres hnm hap3 hap4 hla hlb hra hrb hia hib hhit
              go_upto_region 16 with fail
              go_cut [154] from 113 to 153 (fun s154 wx => s154 = .bool false ∧ W8 = wx)
              case first =>
                obtain ⟨u0, u1, u2, u3, u4, u5, uf⟩ := cells6 HI58.out
                obtain ⟨v0, v1, v2, v3, v4, v5, vf⟩ := cells6 HI8.out
                cases has3 with
                | false =>
                  go_wp2_with (go_at_call 13; first | ((with_reducible refine HAP3.out.mono ?_); rintro e w9 ⟨rfl, rfl⟩) | ((with_reducible refine HAP4.out.mono ?_); rintro e w9 ⟨rfl, rfl⟩))
                  go_meet
                  exact ⟨rfl, rfl⟩
                | true =>
                  obtain ⟨rfl, rfl⟩ := HNM.out rfl
                  go_wp2_with (go_at_call 13; first | ((with_reducible refine HAP3.out.mono ?_); rintro e w9 ⟨rfl, rfl⟩) | ((with_reducible refine HAP4.out.mono ?_); rintro e w9 ⟨rfl, rfl⟩))
                  go_meet
                  exact ⟨rfl, rfl⟩
              case rest =>
                obtain ⟨rfl, rfl⟩ := hcut
                have hla := HLA.out
                subst hla
                go_wp2_with fail
                refine turn_out (W := W8) (fsl := fs.length) (n := n) (ta := ta) (tb := tb) hn1 (by have := HLB.out; omega) HRA.out HRB.out HIA.out HIB.out hmost hnl HHIT.out HLB.out _ _ ?_
                intro u6 u24 u25 u26 u155 u156 u157 u158 u159 u160 u161 u162 u163 u164 u165 u166 u167 u168 u169 u170 u171 u172 u173 u174 u175 u176 u177 u178 u179 u180 u181 u182 u183 u184 u185 u186 u187 u188 u189 u190 u191 u192 u193 u194 u195 u196 u197 u198 u199 u200 u201 u202 u203 u204 u205 u206 u207 u208 u209 u210 u211 u212 u213 u214 u215 u216 u217 u218 u219 u220 u221 u222 u223 u224 u225 u226 u227 u228 u229 u230 u231 u232 u233 u234 u235 u236 u237 u238 u239 u240 u241 u242 u243 u244 u245 u246 u247 u248 u249 u250 u251 V9 hb9
                have hbV := HBW8.out.trans (hb9.mono HBW8.out.size)
                have HBV := Lib.hid hbV
                clear hbV hb9
                go_wp2_with (go_at_call 8; refine (SEE.out _ HBV.out).mono ?_; rintro e w9 ⟨rfl, hb9⟩)
                go_ret
                exact ⟨rfl, HBV.out.trans (hb9.mono HBV.out.size)⟩
end Go.Proofs.YtnmgocbmofbppaaGreatDoor
