/- bufio.Reader: fill, ReadByte. -/
import Derived.Test.YthhmnnojgjpibaaGreatDoorA02

set_option linter.unusedVariables false
set_option linter.unusedSimpArgs false

namespace Go.Proofs.YthhmnnojgjpibaaGreatDoor
open Go Go.RowKit

theorem under39 : Tryz.prog.underlying 39 = some (.slice (Tryz.prog.elem 39)) := by kernel_rfl
theorem size39 (w : World) : (sizeOf (Tryz.prog.elem 39)).run Tryz.prog w = .ok 1 w := by kernel_rfl
theorem slice_none (ba r : Nat) (hr : r ≤ 4096) : ∃ A : Option Addr, ∀ w, (Instr.slice 39 (.slice (some ⟨ba, 0, none⟩) 4096 4096) (some (.int .i64 r)) (some (.int .i64 r)) none).run Tryz.prog w = .ok (.slice A 0 (4096 - r)) w := by
  refine ⟨if 4096 = r then some ⟨ba, 0, none⟩ else (some (⟨ba, 0, none⟩ : Addr)).map (·.add (r * 1)), fun w => ?_⟩
  rw [run_slice_lh (P := Tryz.prog) w 39 _ 4096 4096 under39 .i64 .i64 (r : Int) (r : Int) (by omega) (by omega) (by omega), size39]
  simp only [Result.andThen, sliced, Int.toNat_natCast, Nat.sub_self]
attribute [local go_sem ↓] Go.wp_at_zero Go.wp_at_succ
set_option maxHeartbeats 4000000 in
set_option maxRecDepth 100000 in
theorem fill_text {br ba pc pl : Nat} {X : ByteArray} {x5 x6 : Int} {o r : Nat} {err : Value} {cur : Array Value} {w : World} (h : RdAt 5 65 br ba pc pl X r r 0 o x5 x6 err cur w) (hr : r ≤ 4096) (ho : o < X.size) (hX : X.size ≤ 100000) (hcur : cur.size = 4096) (n : Nat) (hn : n = min (X.size - o) 4096) :
    Calls Tryz.prog 171 #[.pointer (some ⟨br, 0, none⟩)] w fun e w' => e = .returned (.tuple #[]) ∧
      RdAt 5 65 br ba pc pl X (0 : Nat) n 0 ((o + n : Nat) : Int) x5 x6 err (Lib.byteCells ((X.data.toList.drop o).take n) ++ cur.toList.drop n).toArray w' ∧ Ext (fun k => k = br ∨ k = ba ∨ k = pc) w w' := by
  obtain ⟨A, hA⟩ := slice_none ba r hr
  have hcp := fun w : World => run_copy_none (P := Tryz.prog) w 39 39 3 5 (some ⟨ba, 0, none⟩) A 4096 4096 0 (4096 - r) Tryz.underlying39 size1_5 rfl
  have f2 := h.fz 2
  have f3 := h.fz 3
  have c0 := h.c0
  have c1 := h.c1
  have c2 := h.c2
  have c3 := h.c3
  go_enter Tryz.func171, Tryz.ntmps171
  go_upto_if 9 with fail
  go_cut [] (fun wx => RdAt 5 65 br ba pc pl X (0 : Nat) (0 : Nat) 0 o x5 x6 err cur wx ∧ Ext (fun k => k = br ∨ k = ba ∨ k = pc) w wx)
  case first =>
    go_wp2
    · have d0 : w.drew.cell? ⟨br, 0, none⟩ = _ := h.c0
      have d2 : w.drew.cell? ⟨br, 2, none⟩ = _ := h.c2
      have d3 : w.drew.cell? ⟨br, 3, none⟩ = _ := h.c3
      have r0 : (0 : Int) ≤ (r : Int) := by omega
      have r1 : (r : Int) ≤ 4096 := by omega
      go_still_tail 17, (by kernel_rfl)
      go_wp2_with fail
      obtain ⟨U, hU⟩ : ∃ U, U = w.drew := ⟨_, rfl⟩
      rw [← hU]
      have hR : RdAt 5 65 br ba pc pl X r r 0 o x5 x6 err cur U := by rw [hU]; exact h.drew
      have hE : Ext (fun k => k = br ∨ k = ba ∨ k = pc) w U := by rw [hU]; exact (Ext.refl _ w).drewN 1
      clear hU d0 d2 d3 h c0 c1 c2 c3 f2 f3
      have b2 : U.drew.cell? ⟨br, 2, none⟩ = _ := hR.c2
      have b3 : U.drew.cell? ⟨br, 3, none⟩ = _ := hR.c3
      have e2 : U.cell? ⟨br, 2, none⟩ = _ := hR.c2
      have g2 : U.frozen? ⟨br, 2, none⟩ = false := hR.fz 2
      have g3 : U.drew.frozen? ⟨br, 3, none⟩ = false := hR.fz 3
      have hz : IntKind.i64.wrap ((r : Int) - r) = 0 := by rw [Int.sub_self]; rfl
      go_still_tail 11, (by kernel_rfl)
      go_wp2_with fail
      go_meet
      have q0 := ((hR.set3 0).set2 0).drew
      refine ⟨by simpa using q0, ?_⟩
      exact ((hE.trans (Ext.at_ _ (.inl rfl) _)).trans (Ext.at_ _ (.inl rfl) _)).drewN 1
    · go_meet
      obtain rfl : r = 0 := by omega
      exact ⟨h, Ext.refl _ _⟩
  case rest =>
    obtain ⟨hR1, hE1⟩ := hcut
    clear h c0 c1 c2 c3 f2 f3 hA hcp
    have c0 := hR1.c0
    have c3 := hR1.c3
    go_wp2
    go_quiet (fail)
    obtain ⟨V, hV⟩ : ∃ V, V = wc.drewN nq := ⟨_, rfl⟩
    rw [← hV]
    have hR : RdAt 5 65 br ba pc pl X (0 : Nat) (0 : Nat) 0 o x5 x6 err cur V := by rw [hV]; exact hR1.drewN _
    have hE : Ext (fun k => k = br ∨ k = ba ∨ k = pc) w V := by rw [hV]; exact hE1.drewN _
    clear hV nq hR1 hE1 c0 c3
    go_wp2
    refine wp_loop_rounds 1 ?_; rw [rounds_succ]
    go_upto_region 9 with fail
    have d0 : V.drew.cell? ⟨br, 0, none⟩ = _ := hR.c0
    have d1 : V.drew.cell? ⟨br, 1, none⟩ = _ := hR.c1
    have d3 : V.drew.cell? ⟨br, 3, none⟩ = _ := hR.c3
    have HE := Lib.hid hE
    have HR := Lib.hid hR
    have HN := Lib.hid hn
    clear hE hR hn
    have hm : ∀ (a : Addr) w, (method 376 65 (.pointer (some a)) "Read").run Tryz.prog w = .ok (154, .pointer (some a)) w := fun _ _ => by kernel_rfl
    have hn1 : 1 ≤ n := by have := HN.out; omega
    have hn2 : n ≤ 4096 := by have := HN.out; omega
    go_region_held3 (fun w' => w'.cell? ⟨br, 0, none⟩ = some (.slice (some ⟨ba, 0, none⟩) 4096 4096) ∧ w'.cell? ⟨br, 1, none⟩ = some (.iface 65 (.pointer (some ⟨pc, 0, none⟩))) ∧ w'.cell? ⟨br, 3, none⟩ = some (.int .i64 0))
      (first | with_reducible exact ⟨k0, k1, k3⟩ | exact ⟨d0, d1, d3⟩)
      (first | (go_at_call 154; refine (read_text HR.out.drew ho hX hcur n HN.out).mono ?_; rintro e w2 ⟨rfl, hR2, hE2⟩; have k0 := hR2.c0; have k1 := hR2.c1; have k3 : w2.cell? ⟨br, 3, none⟩ = some (.int .i64 0) := hR2.c3; have g3 := hR2.fz 3; have HR2 := Lib.hid hR2; have HE2 := Lib.hid hE2; clear hR2 hE2))
    go_wp2_with fail
    refine bodyPost_ret (v := .tuple #[]) (by simp [results, Tryz.results171, go_sem]) rfl ⟨rfl, by simpa using HR2.out.set3 n, ?_⟩
    exact ((HE.out.drewN 1).trans (HE2.out.mono (fun k _ h => by rcases h with h | h <;> simp [h]))).trans (Ext.at_ _ (.inl rfl) _)
theorem read_eof {br ba pc pl : Nat} {X : ByteArray} {r q x5 x6 : Int} {i o : Nat} {err ev : Value} {cur : Array Value} {w : World} (h : RdAt 5 65 br ba pc pl X r q i o x5 x6 err cur w) (hio : (i = 0 ∧ o = X.size) ∨ (i = 1 ∧ o = 0)) (hev : EofV ev w) (hpc : pc ≠ 0) :
    Calls Tryz.prog 154 #[.pointer (some ⟨pc, 0, none⟩), .slice (some ⟨ba, 0, none⟩) 4096 4096] w fun e w' => e = .returned (.tuple #[.int .i64 0, ev]) ∧
      RdAt 5 65 br ba pc pl X r q 1 0 x5 x6 err cur w' ∧ Ext (fun k => k = pc) w w' := by
  rcases hio with ⟨rfl, rfl⟩ | ⟨rfl, rfl⟩
  · exact read_eof0 h hev hpc
  · exact read_eof1 h hev
set_option maxHeartbeats 4000000 in
set_option maxRecDepth 100000 in
theorem fill_eof {br ba pc pl : Nat} {X : ByteArray} {x5 x6 : Int} {i o r : Nat} {err ev : Value} {cur : Array Value} {w : World} (h : RdAt 5 65 br ba pc pl X r r i o x5 x6 err cur w) (hr : r ≤ 4096) (hio : (i = 0 ∧ o = X.size) ∨ (i = 1 ∧ o = 0)) (hev : EofV ev w) (hpc : pc ≠ 0) (hbr : br ≠ 0) :
    Calls Tryz.prog 171 #[.pointer (some ⟨br, 0, none⟩)] w fun e w' => e = .returned (.tuple #[]) ∧
      RdAt 5 65 br ba pc pl X (0 : Nat) (0 : Nat) 1 0 x5 x6 ev cur w' ∧ Ext (fun k => k = br ∨ k = pc) w w' := by
  obtain ⟨A, hA⟩ := slice_none ba r hr
  have h0 : 0 < w.heap.size := lt_of_cell hev.1
  have HV := Lib.hid hev
  clear hev
  have hcp := fun w : World => run_copy_none (P := Tryz.prog) w 39 39 3 5 (some ⟨ba, 0, none⟩) A 4096 4096 0 (4096 - r) Tryz.underlying39 size1_5 rfl
  have f2 := h.fz 2
  have f3 := h.fz 3
  have c0 := h.c0
  have c1 := h.c1
  have c2 := h.c2
  have c3 := h.c3
  go_enter Tryz.func171, Tryz.ntmps171
  go_upto_if 9 with fail
  go_cut [] (fun wx => RdAt 5 65 br ba pc pl X (0 : Nat) (0 : Nat) i o x5 x6 err cur wx ∧ Ext (fun k => k = br ∨ k = pc) w wx)
  case first =>
    go_wp2
    · have d0 : w.drew.cell? ⟨br, 0, none⟩ = _ := h.c0
      have d2 : w.drew.cell? ⟨br, 2, none⟩ = _ := h.c2
      have d3 : w.drew.cell? ⟨br, 3, none⟩ = _ := h.c3
      have r0 : (0 : Int) ≤ (r : Int) := by omega
      have r1 : (r : Int) ≤ 4096 := by omega
      go_still_tail 17, (by kernel_rfl)
      go_wp2_with fail
      obtain ⟨U, hU⟩ : ∃ U, U = w.drew := ⟨_, rfl⟩
      rw [← hU]
      have hR : RdAt 5 65 br ba pc pl X r r i o x5 x6 err cur U := by rw [hU]; exact h.drew
      have hE : Ext (fun k => k = br ∨ k = pc) w U := by rw [hU]; exact (Ext.refl _ w).drewN 1
      clear hU d0 d2 d3 h c0 c1 c2 c3 f2 f3
      have b2 : U.drew.cell? ⟨br, 2, none⟩ = _ := hR.c2
      have b3 : U.drew.cell? ⟨br, 3, none⟩ = _ := hR.c3
      have e2 : U.cell? ⟨br, 2, none⟩ = _ := hR.c2
      have g2 : U.frozen? ⟨br, 2, none⟩ = false := hR.fz 2
      have g3 : U.drew.frozen? ⟨br, 3, none⟩ = false := hR.fz 3
      have hz : IntKind.i64.wrap ((r : Int) - r) = 0 := by rw [Int.sub_self]; rfl
      go_still_tail 11, (by kernel_rfl)
      go_wp2_with fail
      go_meet
      have q0 := ((hR.set3 0).set2 0).drew
      refine ⟨by simpa using q0, ?_⟩
      exact ((hE.trans (Ext.at_ _ (.inl rfl) _)).trans (Ext.at_ _ (.inl rfl) _)).drewN 1
    · go_meet
      obtain rfl : r = 0 := by omega
      exact ⟨h, Ext.refl _ _⟩
  case rest =>
    obtain ⟨hR1, hE1⟩ := hcut
    clear h c0 c1 c2 c3 f2 f3 hA hcp
    have c0 := hR1.c0
    have c3 := hR1.c3
    go_wp2
    go_quiet (fail)
    obtain ⟨V, hV⟩ : ∃ V, V = wc.drewN nq := ⟨_, rfl⟩
    rw [← hV]
    have hR : RdAt 5 65 br ba pc pl X (0 : Nat) (0 : Nat) i o x5 x6 err cur V := by rw [hV]; exact hR1.drewN _
    have hE : Ext (fun k => k = br ∨ k = pc) w V := by rw [hV]; exact hE1.drewN _
    clear hV nq hR1 hE1 c0 c3
    go_wp2
    refine wp_loop_rounds 1 ?_; rw [rounds_succ]
    go_upto_region 9 with fail
    have d0 : V.drew.cell? ⟨br, 0, none⟩ = _ := hR.c0
    have d1 : V.drew.cell? ⟨br, 1, none⟩ = _ := hR.c1
    have d3 : V.drew.cell? ⟨br, 3, none⟩ = _ := hR.c3
    have HE := Lib.hid hE
    have HR := Lib.hid hR
    have hevV : EofV ev V := HV.out.keep (hE.block 0 h0 (fun e => e.elim (fun e => hbr e.symm) (fun e => hpc e.symm)))
    obtain ⟨a, rfl⟩ := hevV.2
    have hEV := hevV
    have HV2 := Lib.hid hEV
    clear hE hR hevV hEV HV
    have hm : ∀ (a : Addr) w, (method 376 65 (.pointer (some a)) "Read").run Tryz.prog w = .ok (154, .pointer (some a)) w := fun _ _ => by kernel_rfl
    go_region_held3 (fun w' => w'.cell? ⟨br, 0, none⟩ = some (.slice (some ⟨ba, 0, none⟩) 4096 4096) ∧ w'.cell? ⟨br, 1, none⟩ = some (.iface 65 (.pointer (some ⟨pc, 0, none⟩))) ∧ w'.cell? ⟨br, 3, none⟩ = some (.int .i64 0))
      (first | with_reducible exact ⟨k0, k1, k3⟩ | exact ⟨d0, d1, d3⟩)
      (first | (go_at_call 154; refine (read_eof HR.out.drew hio HV2.out hpc).mono ?_; rintro e w2 ⟨rfl, hR2, hE2⟩; have k0 := hR2.c0; have k1 := hR2.c1; have k3 : w2.cell? ⟨br, 3, none⟩ = some (.int .i64 0) := hR2.c3; have k4 := hR2.c4; have g3 := hR2.fz 3; have g4 := hR2.fz 4; have HR2 := Lib.hid hR2; have HE2 := Lib.hid hE2; clear hR2 hE2))
    go_wp2_with fail
    refine bodyPost_ret (v := .tuple #[]) (by simp [results, Tryz.results171, go_sem]) rfl ⟨rfl, by simpa using (HR2.out.set3 0).set4 _, ?_⟩
    exact (((HE.out.drewN 1).trans (HE2.out.mono (fun k _ h => .inr h))).trans (Ext.at_ _ (.inl rfl) _)).trans (Ext.at_ _ (.inl rfl) _)

end Go.Proofs.YthhmnnojgjpibaaGreatDoor
