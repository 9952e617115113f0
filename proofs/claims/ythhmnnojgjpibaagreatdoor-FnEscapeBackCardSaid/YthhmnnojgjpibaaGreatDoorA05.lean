/- bytes.Buffer: Truncate; room for more. -/
import Derived.Test.YthhmnnojgjpibaaGreatDoorA04

set_option linter.unusedVariables false
set_option linter.unusedSimpArgs false

namespace Go.Proofs.YthhmnnojgjpibaaGreatDoor
open Go Go.RowKit

attribute [local go_sem ↓] Go.wp_at_zero Go.wp_at_succ
theorem ext1 (b : Nat) (w : World) (i : Nat) (v : Value) : Ext (fun k => k = b) w (w.setCell ⟨b, i, none⟩ v) := Ext.at_ (S := fun k => k = b) _ rfl _
set_option maxRecDepth 100000 in
set_option maxHeartbeats 2000000 in
theorem trunc_ok {T : TypeId} {R : Nat → Option Value} {b q : Nat} {G : Option Nat} {bs : List UInt8} {w : World} (h : BF T R b q G bs w) (n : Nat) (hn : n ≤ bs.length) :
    Calls Tryz.prog 49 #[.pointer (some ⟨b, q, none⟩), .int .i64 n] w fun e w' => e = .returned (.tuple #[]) ∧ BF T R b q G (bs.take n) w' ∧ Ext (fun k => k = b) w w' := by
  by_cases h0 : n = 0
  · subst h0
    go_enter Tryz.func49, Tryz.ntmps49
    go_wp2_with (go_at_call 43; refine (reset_ok h).mono ?_; rintro e w2 ⟨rfl, hb, hE⟩)
    refine bodyPost_ret (v := .tuple #[]) (by simp [results, Tryz.results49, go_sem]) rfl ⟨rfl, hb, hE⟩
  · have hne : ((n : Int) == 0) = false := by simp; omega
    have hn0 : (0 : Int) ≤ (n : Int) := by omega
    have hlt : ¬ ((n : Int) < 0) := by omega
    have hgt : ¬ ((bs.length : Int) < (n : Int)) := by omega
    have f2 := h.f (q + 2)
    obtain ⟨lr, c2⟩ := h.c2
    have h1 := h.last 0
    obtain ⟨w1, hw1⟩ : ∃ w1, w1 = w.setCell ⟨b, q + 2, none⟩ (.int .i8 0) := ⟨_, rfl⟩
    have hE : Ext (fun k => k = b) w w1 := by rw [hw1]; exact ext1 b _ _ _
    rw [← hw1] at h1
    obtain ⟨A, cap, c0, c1, hlc, hcm, hA⟩ := h1.cells
    have HW := Lib.hid hw1
    have H1 := Lib.hid h1
    have HE := Lib.hid hE
    have HA := Lib.hid hA
    clear hw1 h1 hE hA h
    go_enter Tryz.func49, Tryz.ntmps49
    go_upto_region 3 with fail
    rw [← HW.out]
    go_wp2_with (go_at_call 50; refine (len_cells b q A bs.length cap w1 c0 c1 (by omega)).mono ?_; rintro e w2 ⟨rfl, k, rfl⟩)
    obtain ⟨V, hV⟩ : ∃ V, V = w1.drewN k := ⟨_, rfl⟩
    rw [← hV]
    have H2 : BF T R b q G bs V := by rw [hV]; exact H1.out.drewN _
    have hE2 : Ext (fun k => k = b) w V := by rw [hV]; exact HE.out.drewN _
    clear hV HW H1 HE HA c0 c1 f2 c2 hlc hcm
    obtain ⟨lr', ⟨_, h2, _⟩ | ⟨g, cap', cur, h1, h2, h3, h4, h5, h6, h7, h8, h9⟩⟩ := H2
    · exact absurd (congrArg List.length h2) (by rw [List.length_nil]; omega)
    · subst h1
      have d0 : V.drew.cell? ⟨b, q, none⟩ = some (.slice (some ⟨g, 0, none⟩) bs.length cap') := h3.c0
      have d1 : V.drew.cell? ⟨b, q + 1, none⟩ = some (.int .i64 0) := h3.c1
      have fV : V.drew.frozen? ⟨b, q, none⟩ = false := h3.f q
      have hwn : IntKind.i64.wrap (n : Int) = n := by rw [IntKind.wrap_i64]; unfold maxLen at h6; omega
      have hnc : (n : Int) ≤ (cap' : Int) := by omega
      have hc0 : ¬ cap' = 0 := by omega
      have HR := Lib.hid (⟨h3, h4, h8, h9⟩ : _ ∧ _ ∧ _ ∧ _)
      have HE2 := Lib.hid hE2
      clear h3 h4 h8 h9 hE2
      go_still_tail 14, (by kernel_rfl)
      go_wp2_with fail
      go_end0
      have hl : (bs.take n).length = n := by rw [List.length_take]; omega
      refine ⟨rfl, ⟨lr', .inr ⟨g, cap', cur, rfl, h2, ?_, ?_, by omega, h6, h7, HR.out.2.2.1, ?_⟩⟩, ?_⟩
      · rw [hl]; exact (HR.out.1.set0 (.slice (some ⟨g, 0, none⟩) n cap')).of_heap rfl
      · exact (Below.heap_setCell V ⟨b, q, none⟩ _ g h2).trans HR.out.2.1
      · rw [hl, List.map_take, ← HR.out.2.2.2, List.take_take, Nat.min_eq_left hn]
      · exact (HE2.out.trans (ext1 b V q _)).drewN 1

section
variable {T : TypeId} {R : Nat → Option Value} {b q : Nat} {G : Option Nat} {bs : List UInt8} {w : World}
/-- tryGrowByReslice. -/
theorem tg_any (h : BF T R b q G bs w) (n : Nat) (hn : 1 ≤ n) :
    Calls Tryz.prog 65 #[.pointer (some ⟨b, q, none⟩), .int .i64 n] w fun e w' => (e = .returned (.tuple #[.int .i64 bs.length, .bool true]) ∧ RoomP T R b q G bs n w w') ∨
      (e = .returned (.tuple #[.int .i64 0, .bool false]) ∧ w' = w ∧ LibA.NoRoom b q n w) := by
  obtain ⟨lr, ⟨h1, h2, h3⟩ | ⟨g, cap, cur, h1, h2, h3, h4, h5, h6, h7, h8, h9⟩⟩ := h
  · refine (Tryz.Buffer_tryGrow_none_at b q none 0 0 n w h3.c0 (Nat.le_refl _) (Nat.zero_le _) (by omega)).mono ?_
    rintro e w' ⟨rfl, rfl⟩
    exact .inr ⟨rfl, rfl, _, _, _, h3.c0, by omega⟩
  · by_cases hr : n ≤ cap - bs.length
    · refine (Tryz.Buffer_tryGrow_room_at b q _ bs.length cap n w h3.c0 (h3.f q) h5 h6 hr).mono ?_
      rintro e w' ⟨rfl, rfl⟩
      exact .inl ⟨rfl, lr, g, cap, cur, h2, h3.set0 _, (Below.heap_setCell _ _ _ _ h2).trans h4, by omega, h6, h7, h8, h9, ext1 _ _ _ _, .inl h1.symm⟩
    · refine (Tryz.Buffer_tryGrow_none_at b q _ bs.length cap n w h3.c0 h5 h6 (by omega)).mono ?_
      rintro e w' ⟨rfl, rfl⟩
      exact .inr ⟨rfl, rfl, _, _, _, h3.c0, by omega⟩
theorem tg_zero (h : BF T R b q G bs w) :
    Calls Tryz.prog 65 #[.pointer (some ⟨b, q, none⟩), .int .i64 0] w fun e w' => e = .returned (.tuple #[.int .i64 bs.length, .bool true]) ∧ BF T R b q G bs w' ∧ Ext (fun k => k = b) w w' := by
  obtain ⟨lr, ⟨h1, h2, h3⟩ | ⟨g, cap, cur, h1, h2, h3, h4, h5, h6, h7, h8, h9⟩⟩ := h
  · subst h1 h2
    refine (Tryz.Buffer_tryGrow_room_at b q none 0 0 0 w h3.c0 (h3.f q) (Nat.le_refl _) (Nat.zero_le _) (Nat.le_refl _)).mono ?_
    rintro e w' ⟨rfl, rfl⟩
    exact ⟨rfl, ⟨lr, .inl ⟨rfl, rfl, h3.set0 _⟩⟩, ext1 _ _ _ _⟩
  · refine (Tryz.Buffer_tryGrow_room_at b q _ bs.length cap 0 w h3.c0 (h3.f q) h5 h6 (Nat.zero_le _)).mono ?_
    rintro e w' ⟨rfl, rfl⟩
    exact ⟨rfl, ⟨lr, .inr ⟨g, cap, cur, h1, h2, h3.set0 _, (Below.heap_setCell _ _ _ _ h2).trans h4, h5, h6, h7, h8, h9⟩⟩, ext1 _ _ _ _⟩
end
theorem info5 : (Tryz.prog.info? 5).map (fun i => (i.zero, i.size, i.bytes)) = some (some (.int .u8 0), 1, 1) := by kernel_rfl
set_option maxHeartbeats 4000000 in
set_option maxRecDepth 100000 in
/-- grow: buf nil, at most 64 bytes. -/
theorem grow_small {T : TypeId} {R : Nat → Option Value} {b q n : Nat} {lr : Int} {w : World} (h3 : LibA.Three w b q T R (.slice none 0 0) (.int .i64 0) (.int .i8 lr)) (hn : 1 ≤ n) (h64 : n ≤ 64) :
    Calls Tryz.prog 66 #[.pointer (some ⟨b, q, none⟩), .int .i64 n] w fun e w' => e = .returned (.int .i64 0) ∧ RoomP T R b q none [] n w w' := by
  obtain ⟨i0, hi, hz0, hz1, hz2⟩ := info_parts info5
  obtain ⟨M, hM⟩ : ∃ M, M = madeCells (Value.int .u8 0).cells ((64 : Int).toNat * i0.size) := ⟨_, rfl⟩
  have hMs : M.size = 64 := by rw [hM, size_madeCells, hz1]; rfl
  have hmk : ∀ W : World, (Instr.makeSlice 39 (.int .i64 (n : Int)) (.int .i64 64)).run Tryz.prog W = .ok (.slice (some ⟨W.heap.size, 0, none⟩) n 64) (W.alloc (.cells M 5)) := fun W => by
    have h := run_makeSlice (P := Tryz.prog) W 39 5 i0 (.int .u8 0) Tryz.underlying39 hi hz0 .i64 .i64 (n : Int) 64 (by omega) (by omega) (by rw [hz1]; decide) (by rw [hz2]; decide) (by decide)
    rw [← hM] at h
    simpa using h
  clear hM hi hz0 hz1 hz2
  have hnil : ∀ W, (binOp .eql 39 (.slice none 0 0) (.slice none 0 0)).run Tryz.prog W = .ok (.bool true) W := fun W => Lib.run_eql_slice_nil_nil W _ _ Tryz.underlying39
  have hb := h3.lt
  go_enter Tryz.func66, Tryz.ntmps66
  go_wp2_with (go_at_call 50; refine (len_cells b q none 0 0 w h3.c0 h3.c1 (by unfold maxLen; omega)).mono ?_; rintro e W0 ⟨rfl, k, hW0⟩; have HW0 := Lib.hid hW0; clear hW0; refine Hid.out ?_)
  refine Lib.hid ?_
  have hW0 := HW0.out
  have hbk0 : LibA.Three W0 b q T R (.slice none 0 0) (.int .i64 0) (.int .i8 lr) := by rw [hW0]; exact h3
  have hE0 : Ext (fun k => k = b) w W0 := by rw [hW0]; exact (Ext.refl _ w).drewN _
  have hs0 : W0.heap.size = w.heap.size := by rw [hW0]; rfl
  clear hW0 HW0 h3
  have c0 : W0.cell? ⟨b, q, none⟩ = some (.slice none 0 0) := hbk0.c0
  have c1 : W0.cell? ⟨b, q + 1, none⟩ = some (.int .i64 0) := hbk0.c1
  have f0 : W0.frozen? ⟨b, q, none⟩ = false := hbk0.f q
  have c0a : ∀ o, (W0.alloc o).cell? ⟨b, q, none⟩ = some (.slice none 0 0) := fun o => (World.cell?_of_block (a := ⟨b, q, none⟩) (Below.heap_alloc W0 o b hbk0.lt)).trans c0
  have f0a : ∀ o, (W0.alloc o).frozen? ⟨b, q, none⟩ = false := fun o => (World.frozen?_of_block (a := ⟨b, q, none⟩) (Below.heap_alloc W0 o b hbk0.lt)).trans f0
  have HB := Lib.hid hbk0
  have HE := Lib.hid hE0
  have HS := Lib.hid hs0
  have HM := Lib.hid hMs
  clear hbk0 hE0 hs0 hMs
  go_wp2_with (go_at_call 65; refine (Tryz.Buffer_tryGrow_none_at b q _ 0 0 n _ c0 (Nat.le_refl _) (Nat.zero_le _) (by omega)).mono ?_; rintro e w' ⟨rfl, rfl⟩)
  go_ret
  have hlt := HB.out.lt
  have hne : w'.heap.size ≠ b := by omega
  refine ⟨rfl, lr, _, 64, M, hne, (by rw [List.length_nil, Nat.zero_add]; exact (HB.out.of_heap (Below.heap_alloc w' _ b hlt)).set0 _), (Below.heap_setCell _ _ _ _ hne).trans (heap_alloc_new w' _), by simpa using h64, by unfold maxLen; omega, Nat.le_refl _, HM.out, rfl,
    (HE.out.trans (Ext.alloc _ _)).trans (ext1 b _ q _), .inr (by rw [HS.out]; exact Nat.le_refl _)⟩
theorem Ext.of_drewn {S : Nat → Prop} {w w' : World} (h : Ext S w.drew w') : Ext S w w' := ⟨h.os, h.tape, h.output, h.size, h.block⟩
theorem room_new {T : TypeId} {R : Nat → Option Value} {b q n N cap2 : Nat} {G : Option Nat} {bs : List UInt8} {lr : Int} {cells : Array Value} {V0 : Value} {w w2 : World} (hN : w2.heap[N]? = some (.cells cells 5 (0, 0))) (hcs : cells.size = cap2) (hc : bs.length + n ≤ cap2) (hcm : cap2 ≤ maxLen) (h64 : 64 ≤ cap2)
    (htk : cells.toList.take bs.length = bs.map u8) (h3 : LibA.Three w2 b q T R V0 (.int .i64 0) (.int .i8 lr)) (hE : Ext (fun k => k = b) w w2) (hNb : N ≠ b) (hNw : w.heap.size ≤ N) (v1 : Value) :
    RoomP T R b q G bs n w (((w2.setCell ⟨b, q, none⟩ v1).setCell ⟨b, q + 1, none⟩ (.int .i64 0)).setCell ⟨b, q, none⟩ (.slice (some ⟨N, 0, none⟩) (bs.length + n) cap2)) := by
  refine ⟨lr, N, cap2, cells, hNb, ((h3.set0 _).set1 _).set0 _, ?_, hc, hcm, h64, hcs, htk, ((hE.trans (ext1 b _ q _)).trans (ext1 b _ (q + 1) _)).trans (ext1 b _ q _), .inr hNw⟩
  rw [Below.heap_setCell _ _ _ _ hNb, Below.heap_setCell _ _ _ _ hNb, Below.heap_setCell _ _ _ _ hNb]
  exact hN
set_option maxHeartbeats 4000000 in
set_option maxRecDepth 100000 in
/-- grow: buf nil, above 64 bytes. -/
theorem grow_big {T : TypeId} {R : Nat → Option Value} {b q n : Nat} {lr : Int} {w : World} (h3 : LibA.Three w b q T R (.slice none 0 0) (.int .i64 0) (.int .i8 lr)) (h64 : 64 < n) (hlim : n ≤ 1000000) :
    Calls Tryz.prog 66 #[.pointer (some ⟨b, q, none⟩), .int .i64 n] w fun e w' => e = .returned (.int .i64 0) ∧ RoomP T R b q none [] n w w' := by
  have hnil : ∀ W, (binOp .eql 39 (.slice none 0 0) (.slice none 0 0)).run Tryz.prog W = .ok (.bool true) W := fun W => Lib.run_eql_slice_nil_nil W _ _ Tryz.underlying39
  have hb := h3.lt
  go_enter Tryz.func66, Tryz.ntmps66
  go_wp2_with (go_at_call 50; refine (len_cells b q none 0 0 w h3.c0 h3.c1 (by unfold maxLen; omega)).mono ?_; rintro e W0 ⟨rfl, k, hW0⟩; have HW0 := Lib.hid hW0; clear hW0; refine Hid.out ?_)
  refine Lib.hid ?_
  have hW0 := HW0.out
  have hbk0 : LibA.Three W0 b q T R (.slice none 0 0) (.int .i64 0) (.int .i8 lr) := by rw [hW0]; exact h3
  have hE0 : Ext (fun k => k = b) w W0 := by rw [hW0]; exact (Ext.refl _ w).drewN _
  have hs0 : W0.heap.size = w.heap.size := by rw [hW0]; rfl
  clear hW0 HW0 h3
  have c0 : W0.cell? ⟨b, q, none⟩ = some (.slice none 0 0) := hbk0.c0
  have c1 : W0.cell? ⟨b, q + 1, none⟩ = some (.int .i64 0) := hbk0.c1
  have c0d : W0.drew.cell? ⟨b, q, none⟩ = some (.slice none 0 0) := c0
  have c1d : W0.drew.cell? ⟨b, q + 1, none⟩ = some (.int .i64 0) := c1
  have hwn : IntKind.i64.wrap (n : Int) = n := by rw [IntKind.wrap_i64]; omega
  have HB := Lib.hid hbk0
  have HE := Lib.hid hE0
  have HS := Lib.hid hs0
  clear hbk0 hE0 hs0
  go_wp2_with (go_at_call 65; refine (Tryz.Buffer_tryGrow_none_at b q _ 0 0 n _ c0 (Nat.le_refl _) (Nat.zero_le _) (by omega)).mono ?_; rintro e w' ⟨rfl, hw'⟩; subst hw')
  have hlt := HB.out.lt
  go_region_with (go_at_call 82; refine (Tryz.bytes_growSlice_nil n _ (by omega) (by omega)).mono ?_; rintro e w2 ⟨cap2, cells, rfl, hN, hcsz, hcap2, hcm2, hbel⟩; have hbk2 := HB.out.of_heap (hbel.block b hlt); have d0 := hbk2.c0; have d1 := hbk2.c1; have e0 := hbk2.f q; have e1 := hbk2.f (q + 1); have HX := Lib.hid (⟨hN, hcsz, hcap2, hcm2, hbel, hbk2⟩ : _ ∧ _ ∧ _ ∧ _ ∧ _ ∧ _); clear hN hcsz hcm2 hbel hbk2)
  all_goals
    go_wp2
    go_ret
    obtain ⟨hN, hcsz, _, hcm2, hbel, hbk2⟩ := HX.out
    refine ⟨rfl, ?_⟩
    have := room_new (G := none) (bs := []) (n := n) hN hcsz (by simpa using hcap2) hcm2 (by omega) rfl hbk2 (HE.out.trans ((Ext.of_below (w := w'.drew) hbel).of_drewn)) (by show w'.heap.size ≠ b; omega) (by show w.heap.size ≤ w'.heap.size; rw [HS.out]; exact Nat.le_refl _) (.slice (some ⟨w'.heap.size, 0, none⟩) 0 cap2)
    simpa using this
set_option maxHeartbeats 4000000 in
set_option maxRecDepth 100000 in
/-- grow: a row without room. -/
theorem grow_row {T : TypeId} {R : Nat → Option Value} {b q g cap n : Nat} {lr : Int} {cur : Array Value} {bs : List UInt8} {w : World} (h3 : LibA.Three w b q T R (.slice (some ⟨g, 0, none⟩) bs.length cap) (.int .i64 0) (.int .i8 lr)) (h4 : w.heap[g]? = some (.cells cur 5 (0, 0)))
    (hlc : bs.length ≤ cap) (h64 : 64 ≤ cap) (hcs : cur.size = cap) (htk : cur.toList.take bs.length = bs.map u8) (hbs : bs ≠ []) (hr : cap - bs.length < n) (hlim : bs.length + n ≤ 1000000) :
    Calls Tryz.prog 66 #[.pointer (some ⟨b, q, none⟩), .int .i64 n] w fun e w' => e = .returned (.int .i64 bs.length) ∧ RoomP T R b q (some g) bs n w w' := by
  have hl0 : 0 < bs.length := List.length_pos_iff.2 hbs
  have hnil : ∀ W, (binOp .eql 39 (.slice (some ⟨g, 0, none⟩) bs.length cap) (.slice none 0 0)).run Tryz.prog W = .ok (.bool false) W := fun W => Lib.run_eql_slice_some_nil W _ _ _ Tryz.underlying39
  have hlz : ((bs.length : Int) == 0) = false := by simp; omega
  have h1 : ∀ v ∈ cur.toList.take bs.length, v.oneCell' = true := by rw [htk]; intro v hv; obtain ⟨x, _, rfl⟩ := List.mem_map.1 hv; rfl
  have HTK := Lib.hid htk
  clear htk
  have hb := h3.lt
  go_enter Tryz.func66, Tryz.ntmps66
  go_wp2_with (go_at_call 50; refine (len_cells b q (some ⟨g, 0, none⟩) bs.length cap w h3.c0 h3.c1 (by unfold maxLen; omega)).mono ?_; rintro e W0 ⟨rfl, k, hW0⟩; have HW0 := Lib.hid hW0; clear hW0; refine Hid.out ?_)
  refine Lib.hid ?_
  have hW0 := HW0.out
  have hbk0 : LibA.Three W0 b q T R (.slice (some ⟨g, 0, none⟩) bs.length cap) (.int .i64 0) (.int .i8 lr) := by rw [hW0]; exact h3
  have hE0 : Ext (fun k => k = b) w W0 := by rw [hW0]; exact (Ext.refl _ w).drewN _
  have hs0 : W0.heap.size = w.heap.size := by rw [hW0]; rfl
  have h40 : W0.heap[g]? = some (.cells cur 5 (0, 0)) := by rw [hW0]; exact h4
  have HG := Lib.hid h40
  clear hW0 HW0 h3 h4 h40
  have c0 : W0.cell? ⟨b, q, none⟩ = some (.slice (some ⟨g, 0, none⟩) bs.length cap) := hbk0.c0
  have c1 : W0.cell? ⟨b, q + 1, none⟩ = some (.int .i64 0) := hbk0.c1
  have c0d : W0.drew.cell? ⟨b, q, none⟩ = some (.slice (some ⟨g, 0, none⟩) bs.length cap) := c0
  have c1d : W0.drew.cell? ⟨b, q + 1, none⟩ = some (.int .i64 0) := c1
  have hwn : IntKind.i64.wrap (n : Int) = n := by rw [IntKind.wrap_i64]; omega
  have HB := Lib.hid hbk0
  have HE := Lib.hid hE0
  have HS := Lib.hid hs0
  clear hbk0 hE0 hs0
  go_wp2_with (go_at_call 65; refine (Tryz.Buffer_tryGrow_none_at b q _ bs.length cap n _ c0 hlc (by unfold maxLen; omega) hr).mono ?_; rintro e w' ⟨rfl, hw'⟩; subst hw')
  have hlt := HB.out.lt
  go_region_with (go_at_call 82; refine (Tryz.bytes_growSlice_row g bs.length cap n cur _ ?_ hcs hlc (by omega) (by omega) (by omega) h1).mono ?_; exact HG.out; rintro e w2 ⟨cap2, cells, rfl, hN, hcsz, htk2, hcap2, hcm2, hbel⟩; have hbk2 := HB.out.of_heap (hbel.block b hlt); have d0 := hbk2.c0; have d1 := hbk2.c1; have e0 := hbk2.f q; have e1 := hbk2.f (q + 1); have HX := Lib.hid (⟨hN, hcsz, hcap2, hcm2, hbel, hbk2, htk2⟩ : _ ∧ _ ∧ _ ∧ _ ∧ _ ∧ _ ∧ _); clear hN hcsz hcm2 hbel hbk2 htk2)
  all_goals
    go_wp2
    go_ret
    obtain ⟨hN, hcsz, _, hcm2, hbel, hbk2, htk2⟩ := HX.out
    refine ⟨rfl, ?_⟩
    have := room_new (G := some g) (bs := bs) (n := n) hN hcsz hcap2 hcm2 (by omega) (htk2.trans HTK.out) hbk2 (HE.out.trans ((Ext.of_below (w := w'.drew) hbel).of_drewn)) (by show w'.heap.size ≠ b; omega) (by show w.heap.size ≤ w'.heap.size; rw [HS.out]; exact Nat.le_refl _) (.slice (some ⟨w'.heap.size, 0, none⟩) bs.length cap2)
    exact this

end Go.Proofs.YthhmnnojgjpibaaGreatDoor
