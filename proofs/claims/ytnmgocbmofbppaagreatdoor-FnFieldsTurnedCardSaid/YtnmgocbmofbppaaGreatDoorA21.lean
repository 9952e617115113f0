/- ends and small, at the probe of sees. few, at the probe of sees. soundIn, at the probe of sees. sound, at the probe of sees. The arguments of the Fields pair: what is read as data lies in memory as types, fields and named types. -/
import Derived.Test.YtnmgocbmofbppaaGreatDoorA19
import Derived.Test.YtnmgocbmofbppaaGreatDoorA08
import Derived.Test.YtnmgocbmofbppaaGreatDoorRows
import Derived.WalkKit
import Derived.ProofKit
import Derived.OpenShut
import Derived.SizedLaws
import Derived.WideKeyArgs

set_option linter.unusedVariables false
set_option linter.unusedSimpArgs false

namespace Go.Proofs.YtnmgocbmofbppaaGreatDoor
open Go.RowKit

set_option maxHeartbeats 3200000 in
set_option maxRecDepth 100000 in
theorem ends_in {w : World} {A1 D1 : Option Addr} {c1 d1 : Nat} (x : Value) (dn : Nat) : Calls Tryz.prog 31 #[x, .agg (pbIn A1 c1 D1 d1), .map (some dn)] w fun e w' => e = .returned (.bool true) ∧ Ext (fun _ => False) w w' := by
  go_enter Tryz.func31, Tryz.ntmps31
  go_wp2
  go_ret
  exact ⟨rfl, Ext.alloc _ _⟩
set_option maxHeartbeats 3200000 in
set_option maxRecDepth 100000 in
theorem ends_pb {w : World} (x : Value) (A : Option Addr) (co b off cf dn : Nat) {A1 D1 : Option Addr} {c1 d1 : Nat} (hR : PbR w b off A1 c1 D1 d1) : Calls Tryz.prog 31 #[x, .agg (pbCs A co b off cf), .map (some dn)] w fun e w' => e = .returned (.bool true) ∧ Ext (fun _ => False) w w' := by
  have hRl : b < w.heap.size := lt_cell hR.x0
  go_enter Tryz.func31, Tryz.ntmps31
  go_wp2_with fail
  go_loopg [57] 1 (fun gk s57 wx => ∃ j : Nat, s57 = .int .i64 j ∧ j ≤ 1 ∧ gk = 1 - j ∧ Ext (fun _ => False) w wx)
  case atStart => exact ⟨0, rfl, Nat.zero_le _, rfl, Ext.alloc _ _⟩
  case round =>
    obtain ⟨j, rfl, hj, rfl, hx⟩ := hrel
    by_cases hlt : j < 1
    · obtain rfl : j = 0 := by omega
      obtain ⟨x0, x1, x2, x3, x4, x5, x6, x7⟩ := hR.keep (hx.block b hRl (fun e => e))
      have hk := ends_in (w := wr.alloc (pbRow A1 c1 D1 d1)) (A1 := A1) (c1 := c1) (D1 := D1) (d1 := d1) x dn
      go_wp2_with (go_at_call 31; refine hk.mono ?_; rintro e w4 ⟨rfl, hx4⟩)
      go_roundg 0
      case measure => omega
      case rel => exact ⟨1, rfl, by omega, rfl, hx.trans ((Ext.alloc _ _).trans hx4)⟩
    · obtain rfl : j = 1 := by omega
      go_wp2_with fail
      go_ret
      exact ⟨rfl, hx⟩
set_option maxHeartbeats 3200000 in
set_option maxRecDepth 100000 in
theorem small_in {B bk mn : Nat} {env : AL Ty} {w : World} {A1 D1 : Option Addr} {c1 d1 : Nat} (L : Int) (hL : 10 ≤ L) (hM : L ≤ 1000000) (h : SPre w B bk mn env bk 2 L) : Calls Tryz.prog 32 #[.pointer (some ⟨bk, 0, none⟩), .agg (pbIn A1 c1 D1 d1)] w fun e w' => e = .returned (.bool true) ∧ SPre w' B bk mn env bk 2 (L - 1) ∧ Ex1 bk 2 w w' := by
  have hcl := h.cl
  have hnf := h.nf
  have hlt := h.hlt
  have H := Lib.hid h
  clear h
  go_enter Tryz.func32, Tryz.ntmps32
  go_upto_region 1 with fail
  go_cut [10] (fun _ wx => SPre wx B bk mn env bk 2 (L - 1) ∧ Box5' wx w.heap.size (.int .i64 2) (.int .i64 64) (.string ⟨#[]⟩) (.slice A1 0 c1) (.slice D1 0 d1) ∧ Ex1 bk 2 w wx ∧ w.heap.size < wx.heap.size)
  case first =>
    go_wp2
    go_meet
    exact ⟨(H.out.set_ _).alloc _, Box5'.new' (by simp [World.setCell]) _ _ _ _ _ _, (Ex1.setCell w _).trans (Ex1.alloc (by simpa [World.setCell] using hlt) _), by simp [World.setCell]⟩
  case rest =>
    obtain ⟨hp, ⟨q0, q1, q2, q3, q4⟩, hx, hs⟩ := hcut
    clear hcl hnf
    have hcl := hp.cl
    have hc0 := hp.c0
    have hnf := hp.nf
    have HP := Lib.hid hp
    have HX := Lib.hid hx
    clear hp hx
    have hd0 : decide (L - 1 < 0) = false := decide_eq_false (by omega)
    go_wp2_with fail
    go_ret
    exact ⟨rfl, HP.out, HX.out⟩
set_option maxHeartbeats 3200000 in
set_option maxRecDepth 100000 in
theorem small_pb {B bk mn : Nat} {env : AL Ty} {w : World} (A : Option Addr) (co b off cf : Nat) {A1 D1 : Option Addr} {c1 d1 : Nat} (L : Int) (hL : 20 ≤ L) (hM : L ≤ 1000000) (hR : PbR w b off A1 c1 D1 d1) (hne : b ≠ bk) (h : SPre w B bk mn env bk 2 L) : Calls Tryz.prog 32 #[.pointer (some ⟨bk, 0, none⟩), .agg (pbCs A co b off cf)] w fun e w' => e = .returned (.bool true) ∧ SPre w' B bk mn env bk 2 (L - 2) ∧ Ex1 bk 2 w w' := by
  have hcl := h.cl
  have hnf := h.nf
  have hlt := h.hlt
  have hRl : b < w.heap.size := lt_cell hR.x0
  have H := Lib.hid h
  clear h
  go_enter Tryz.func32, Tryz.ntmps32
  go_upto_region 1 with fail
  go_cut [10] (fun _ wx => SPre wx B bk mn env bk 2 (L - 1) ∧ Box5' wx w.heap.size (.int .i64 13) (.int .i64 0) (.string ⟨#[]⟩) (.slice A 0 co) (.slice (some ⟨b, off, none⟩) 1 cf) ∧ Ex1 bk 2 w wx ∧ w.heap.size < wx.heap.size)
  case first =>
    go_wp2
    go_meet
    exact ⟨(H.out.set_ _).alloc _, Box5'.new' (by simp [World.setCell]) _ _ _ _ _ _, (Ex1.setCell w _).trans (Ex1.alloc (by simpa [World.setCell] using hlt) _), by simp [World.setCell]⟩
  case rest =>
    obtain ⟨hp, ⟨q0, q1, q2, q3, q4⟩, hx, hs⟩ := hcut
    clear hcl hnf
    have hcl := hp.cl
    have hc0 := hp.c0
    have hnf := hp.nf
    have HP := Lib.hid hp
    have HX := Lib.hid hx
    clear hp hx
    have hd0 : decide (L - 1 < 0) = false := decide_eq_false (by omega)
    go_wp2_with fail
    go_loopg [51] 1 (fun gk s51 wx => ∃ j : Nat, s51 = .int .i64 j ∧ j ≤ 1 ∧ gk = 1 - j ∧ SPre wx B bk mn env bk 2 (L - 1 - j) ∧ Ex1 bk 2 w wx ∧ w.heap.size < wx.heap.size)
    case atStart => exact ⟨0, rfl, Nat.zero_le _, rfl, by simpa using HP.out, HX.out, hs⟩
    case round =>
      clear q0 q1 q2 q3 q4 hcl hc0 hnf hd0 hs HP HX
      obtain ⟨j, rfl, hj, rfl, hp, hx, hs⟩ := hrel
      by_cases hlt : j < 1
      · obtain rfl : j = 0 := by omega
        obtain ⟨x0, x1, x2, x3, x4, x5, x6, x7⟩ := hR.keep (hx.block b hRl hne)
        have hp3 : SPre wr B bk mn env bk 2 (L - 1) := by simpa using hp
        have hk := small_in (w := wr.alloc (pbRow A1 c1 D1 d1)) (A1 := A1) (c1 := c1) (D1 := D1) (d1 := d1) (L - 1) (by omega) (by omega) (hp3.alloc _)
        have hbl := hp3.hlt
        have HK := Lib.hid hk
        have HX := Lib.hid hx
        clear hk hx hp hp3
        go_wp2_with (go_at_call 32; refine HK.out.mono ?_; rintro e w4 ⟨rfl, hp4, hx4⟩; have HP4 := Lib.hid hp4; have HX4 := Lib.hid hx4; clear hp4 hx4)
        go_roundg 0
        case measure => omega
        case rel => exact ⟨1, rfl, by omega, rfl, by rw [show L - 1 - ((1 : Nat) : Int) = L - 1 - 1 by omega]; exact HP4.out, (HX.out.trans (Ex1.alloc hbl _)).trans HX4.out, Nat.lt_of_lt_of_le hs (Nat.le_trans (by simp) HX4.out.size)⟩
      · obtain rfl : j = 1 := by omega
        have HP := Lib.hid (show SPre wr B bk mn env bk 2 (L - 2) by rw [show L - 2 = L - 1 - ((1 : Nat) : Int) by omega]; exact hp)
        have HX := Lib.hid hx
        clear hp hx
        go_wp2_with fail
        go_ret
        exact ⟨rfl, HP.out, HX.out⟩
end Go.Proofs.YtnmgocbmofbppaaGreatDoor
namespace Go.Proofs.YtnmgocbmofbppaaGreatDoor
open Go.RowKit

set_option maxHeartbeats 3200000 in
set_option maxRecDepth 100000 in
theorem few_in {w : World} {A1 D1 : Option Addr} {c1 d1 : Nat} (x y : Value) (cb : Nat) (L : Int) (hL : 10 ≤ L) (hM : L ≤ 1000000) (h : Cb w cb 0 L) : Calls Tryz.prog 36 #[x, .agg (pbIn A1 c1 D1 d1), y, .pointer (some ⟨cb, 0, none⟩)] w fun e w' => e = .returned (.bool true) ∧ Ext (· = cb) w w' ∧ Cb w' cb 0 (L - 1) := by
  have hcl := h.c
  have hnf := h.f
  have hlt0 := h.lt
  go_enter Tryz.func36, Tryz.ntmps36
  go_upto_region 1 with fail
  go_cut [14] (fun _ wx => Cb wx cb 0 (L - 1) ∧ Ext (· = cb) w wx ∧ Box5' wx w.heap.size (.int .i64 2) (.int .i64 64) (.string ⟨#[]⟩) (.slice A1 0 c1) (.slice D1 0 d1))
  case first =>
    go_wp2
    go_meet
    exact ⟨(h.set_ _).alloc _, (Ext.setCell (S := (· = cb)) w rfl _).trans (Ext.alloc _ _), Box5'.new' (by simp [World.setCell]) _ _ _ _ _ _⟩
  case rest =>
    obtain ⟨hc, hx, q0, q1, q2, q3, q4⟩ := hcut
    clear hcl hnf
    have hcl := hc.c
    have hlt1 := hc.lt
    have hd0 : decide (L - 1 < 0) = false := decide_eq_false (by omega)
    go_wp2
    go_ret
    exact ⟨rfl, hx, hc⟩
set_option maxHeartbeats 3200000 in
set_option maxRecDepth 100000 in
theorem few_pb {w : World} (x y : Value) (A : Option Addr) (co b off cf cb : Nat) (L : Int) (hL : 20 ≤ L) (hM : L ≤ 1000000) {A1 D1 : Option Addr} {c1 d1 : Nat} (hR : PbR w b off A1 c1 D1 d1) (hne : b ≠ cb) (h : Cb w cb 0 L) : Calls Tryz.prog 36 #[x, .agg (pbCs A co b off cf), y, .pointer (some ⟨cb, 0, none⟩)] w fun e w' => e = .returned (.bool true) ∧ Ext (· = cb) w w' ∧ Cb w' cb 0 (L - 2) := by
  have hcl := h.c
  have hnf := h.f
  have hlt0 := h.lt
  have hRl : b < w.heap.size := lt_cell hR.x0
  go_enter Tryz.func36, Tryz.ntmps36
  go_upto_region 1 with fail
  go_cut [14] (fun _ wx => Cb wx cb 0 (L - 1) ∧ Ext (· = cb) w wx ∧ Box5' wx w.heap.size (.int .i64 13) (.int .i64 0) (.string ⟨#[]⟩) (.slice A 0 co) (.slice (some ⟨b, off, none⟩) 1 cf))
  case first =>
    go_wp2
    go_meet
    exact ⟨(h.set_ _).alloc _, (Ext.setCell (S := (· = cb)) w rfl _).trans (Ext.alloc _ _), Box5'.new' (by simp [World.setCell]) _ _ _ _ _ _⟩
  case rest =>
    obtain ⟨hc, hx, q0, q1, q2, q3, q4⟩ := hcut
    clear hcl hnf
    have hcl := hc.c
    have hlt1 := hc.lt
    have hd0 : decide (L - 1 < 0) = false := decide_eq_false (by omega)
    go_wp2_with fail
    go_loopg [82] 1 (fun gk s82 wx => ∃ j : Nat, s82 = .int .i64 j ∧ j ≤ 1 ∧ gk = 1 - j ∧ Ext (· = cb) w wx ∧ Cb wx cb 0 (L - 1 - j))
    case atStart => exact ⟨0, rfl, Nat.zero_le _, rfl, hx, by simpa using hc⟩
    case round =>
      obtain ⟨j, rfl, hj, rfl, hx2, hc2⟩ := hrel
      clear hcl
      by_cases hlt : j < 1
      · obtain rfl : j = 0 := by omega
        obtain ⟨x0, x1, x2, x3, x4, x5, x6, x7⟩ := hR.keep (hx2.block b hRl hne)
        have hc3 : Cb wr cb 0 (L - 1) := by simpa using hc2
        have hk := few_in (w := wr.alloc (pbRow A1 c1 D1 d1)) (A1 := A1) (c1 := c1) (D1 := D1) (d1 := d1) x y cb (L - 1) (by omega) (by omega) (hc3.alloc _)
        go_wp2_with (go_at_call 36; refine hk.mono ?_; rintro e w4 ⟨rfl, hx4, hc4⟩)
        go_roundg 0
        case measure => omega
        case rel => exact ⟨1, rfl, by omega, rfl, hx2.trans ((Ext.alloc _ _).trans hx4), by rw [show L - 1 - ((1 : Nat) : Int) = L - 1 - 1 by omega]; exact hc4⟩
      · obtain rfl : j = 1 := by omega
        have hc3 : Cb wr cb 0 (L - 2) := by rw [show L - 2 = L - 1 - ((1 : Nat) : Int) by omega]; exact hc2
        go_wp2_with fail
        go_ret
        exact ⟨rfl, hx2, hc3⟩
end Go.Proofs.YtnmgocbmofbppaaGreatDoor
namespace Go.Proofs.YtnmgocbmofbppaaGreatDoor
open Go.RowKit

set_option maxHeartbeats 3200000 in
set_option maxRecDepth 100000 in
theorem soundIn_in {w : World} {A1 D1 : Option Addr} {c1 d1 : Nat} (x : Value) (cb : Nat) (L : Int) (hL : 10 ≤ L) (hM : L ≤ 1000000) (h : Cb w cb 0 L) : Calls Tryz.prog 37 #[x, .agg (pbIn A1 c1 D1 d1), .pointer (some ⟨cb, 0, none⟩)] w fun e w' => e = .returned (.bool true) ∧ Ext (· = cb) w w' := by
  have hk1 := loops_in (w := (w.alloc (.cells (pbIn A1 c1 D1 d1) 26)).alloc (.map #[] 0)) (A1 := A1) (c1 := c1) (D1 := D1) (d1 := d1) x (w.heap.size + 1)
  have hk2 : ∀ w2, Ext (fun _ => False) ((w.alloc (.cells (pbIn A1 c1 D1 d1) 26)).alloc (.map #[] 0)) w2 → Calls Tryz.prog 35 #[x, .agg (pbIn A1 c1 D1 d1), .pointer (some ⟨cb, 0, none⟩)] w2 _ := fun w2 hx => ways_in x cb L hL hM (((h.alloc _).alloc _).keep (hx.block cb (by have := h.lt; simp; omega) (fun e => e)))
  have hbk : ∀ w2, Ext (fun _ => False) ((w.alloc (.cells (pbIn A1 c1 D1 d1) 26)).alloc (.map #[] 0)) w2 → Box5' w2 w.heap.size (.int .i64 2) (.int .i64 64) (.string ⟨#[]⟩) (.slice A1 0 c1) (.slice D1 0 d1) := fun w2 hx2 => (Box5'.new w _ _ _ _ _ _).keep ((hx2.block _ (by simp; omega) (fun e => e)).trans (Below.heap_alloc _ _ _ (by simp)))
  have hmk := @run_makeMap Tryz.prog
  go_enter Tryz.func37, Tryz.ntmps37
  go_wp2_with (first
    | (go_at_call 35; refine (hk2 w2 hx2).mono ?_; rintro e w3 ⟨rfl, hx3, hc3⟩; clear q0 q1 q2 q3 q4; obtain ⟨q0, q1, q2, q3, q4⟩ := (show Box5' w3 w.heap.size _ _ _ _ _ from (hbk w2 hx2).keep (hx3.block _ (by have := hx2.size; simp at this; omega) (by have := h.lt; omega))))
    | (go_at_call 33; refine hk1.mono ?_; rintro e w2 ⟨rfl, hx2⟩; obtain ⟨q0, q1, q2, q3, q4⟩ := hbk w2 hx2))
  have hlt0 := h.lt
  have hx3' : Ext (· = cb) w w3 := ((Ext.alloc _ _).trans (Ext.alloc _ _)).trans ((hx2.mono fun _ _ e => e.elim).trans hx3)
  go_loopg [25] 0 (fun gk s25 wx => s25 = .int .i64 0 ∧ gk = 0 ∧ wx = w3)
  case atStart => exact ⟨rfl, rfl, rfl⟩
  case round =>
    obtain ⟨rfl, rfl, rfl⟩ := hrel
    go_wp2_with fail
    go_loopg [38] 0 (fun gk s38 wx => s38 = .int .i64 0 ∧ gk = 0 ∧ wx = wr)
    case atStart => exact ⟨rfl, rfl, rfl⟩
    case round =>
      obtain ⟨rfl, rfl, rfl⟩ := hrel
      go_wp2_with fail
      go_ret
      exact ⟨rfl, hx3'⟩
set_option maxHeartbeats 3200000 in
set_option maxRecDepth 100000 in
theorem soundIn_pb {w : World} (x : Value) (A : Option Addr) (co b off cf cb : Nat) (L : Int) (hL : 20 ≤ L) (hM : L ≤ 1000000) {A1 D1 : Option Addr} {c1 d1 : Nat} (hR : PbR w b off A1 c1 D1 d1) (hne : b ≠ cb) (h : Cb w cb 0 L) : Calls Tryz.prog 37 #[x, .agg (pbCs A co b off cf), .pointer (some ⟨cb, 0, none⟩)] w fun e w' => e = .returned (.bool true) ∧ Ext (· = cb) w w' := by
  have hRl : b < w.heap.size := lt_cell hR.x0
  have hR1 : PbR ((w.alloc (.cells (pbCs A co b off cf) 26)).alloc (.map #[] 0)) b off A1 c1 D1 d1 := hR.keep ((Below.heap_alloc _ _ _ (by simp; omega)).trans (Below.heap_alloc _ _ _ hRl))
  have hk1 := loops_pb (w := (w.alloc (.cells (pbCs A co b off cf) 26)).alloc (.map #[] 0)) x A co b off cf (w.heap.size + 1) hR1
  have hk2 : ∀ w2, Ext (fun _ => False) ((w.alloc (.cells (pbCs A co b off cf) 26)).alloc (.map #[] 0)) w2 → Calls Tryz.prog 35 #[x, .agg (pbCs A co b off cf), .pointer (some ⟨cb, 0, none⟩)] w2 _ := fun w2 hx => ways_pb x A co b off cf cb L (by omega) hM (hR1.keep (hx.block b (by simp; omega) (fun e => e))) hne (((h.alloc _).alloc _).keep (hx.block cb (by have := h.lt; simp; omega) (fun e => e)))
  have hbk : ∀ w2, Ext (fun _ => False) ((w.alloc (.cells (pbCs A co b off cf) 26)).alloc (.map #[] 0)) w2 → Box5' w2 w.heap.size (.int .i64 13) (.int .i64 0) (.string ⟨#[]⟩) (.slice A 0 co) (.slice (some ⟨b, off, none⟩) 1 cf) := fun w2 hx2 => (Box5'.new w _ _ _ _ _ _).keep ((hx2.block _ (by simp; omega) (fun e => e)).trans (Below.heap_alloc _ _ _ (by simp)))
  have hmk := @run_makeMap Tryz.prog
  go_enter Tryz.func37, Tryz.ntmps37
  go_wp2_with (first
    | (go_at_call 35; refine (hk2 w2 hx2).mono ?_; rintro e w3 ⟨rfl, hx3, hc3⟩; clear q0 q1 q2 q3 q4; obtain ⟨q0, q1, q2, q3, q4⟩ := (show Box5' w3 w.heap.size _ _ _ _ _ from (hbk w2 hx2).keep (hx3.block _ (by have := hx2.size; simp at this; omega) (by have := h.lt; omega))))
    | (go_at_call 33; refine hk1.mono ?_; rintro e w2 ⟨rfl, hx2⟩; obtain ⟨q0, q1, q2, q3, q4⟩ := hbk w2 hx2))
  have hlt0 := h.lt
  have hx3' : Ext (· = cb) w w3 := ((Ext.alloc _ _).trans (Ext.alloc _ _)).trans ((hx2.mono fun _ _ e => e.elim).trans hx3)
  have hR3 : PbR w3 b off A1 c1 D1 d1 := hR.keep (hx3'.block b hRl hne)
  go_loopg [25] 0 (fun gk s25 wx => s25 = .int .i64 0 ∧ gk = 0 ∧ wx = w3)
  case atStart => exact ⟨rfl, rfl, rfl⟩
  case round =>
    obtain ⟨rfl, rfl, rfl⟩ := hrel
    go_wp2_with fail
    go_loopg [38] 1 (fun gk s38 wx => ∃ j : Nat, s38 = .int .i64 j ∧ j ≤ 1 ∧ gk = 1 - j ∧ Ext (· = cb) w wx ∧ (j = 0 → wx = wr))
    case atStart => exact ⟨0, rfl, Nat.zero_le _, rfl, hx3', fun _ => rfl⟩
    case round =>
      obtain ⟨j, rfl, hj, rfl, hx4, he⟩ := hrel
      by_cases hlt : j < 1
      · obtain rfl : j = 0 := by omega
        obtain rfl := he rfl
        obtain ⟨x0, x1, x2, x3, x4, x5, x6, x7⟩ := hR3
        have hk := soundIn_in (w := wr.alloc (pbRow A1 c1 D1 d1)) (A1 := A1) (c1 := c1) (D1 := D1) (d1 := d1) x cb (L - 2) (by omega) (by omega) (hc3.alloc _)
        go_wp2_with (go_at_call 37; refine hk.mono ?_; rintro e w4 ⟨rfl, hx5⟩)
        go_roundg 0
        case measure => omega
        case rel => exact ⟨1, rfl, by omega, rfl, hx4.trans ((Ext.alloc _ _).trans hx5), fun e => by omega⟩
      · obtain rfl : j = 1 := by omega
        go_wp2_with fail
        go_ret
        exact ⟨rfl, hx4⟩
end Go.Proofs.YtnmgocbmofbppaaGreatDoor
namespace Go.Proofs.YtnmgocbmofbppaaGreatDoor
open Go.RowKit

theorem sound_start (w : World) (A : Option Addr) (co b off cf : Nat) : ∃ W, W = ((w.alloc (.cells (pbCs A co b off cf) 26)).alloc (.cells #[.int .i64 100000] 3)).alloc (.cells #[.int .i64 100000] 3) ∧ Ext (fun _ => False) w W ∧ w.heap.size + 3 ≤ W.heap.size ∧ Cb W (w.heap.size + 1) 0 100000 ∧ Cb W (w.heap.size + 1 + 1) 0 100000 ∧
    Box5' W w.heap.size (.int .i64 13) (.int .i64 0) (.string ⟨#[]⟩) (.slice A 0 co) (.slice (some ⟨b, off, none⟩) 1 cf) := by
  refine ⟨_, rfl, ((Ext.alloc _ _).trans (Ext.alloc _ _)).trans (Ext.alloc _ _), by simp, Cb.alloc ⟨?_, ?_⟩ _, ⟨?_, ?_⟩, (Box5'.new w _ _ _ _ _ _).keep ((Below.heap_alloc _ _ _ (by simp; omega)).trans (Below.heap_alloc _ _ _ (by simp)))⟩ <;> simp [go_sem]
theorem sound_end {w W w2 w3 : World} (hx : Ext (fun _ => False) w W) (h2 : Ext (· = w.heap.size + 1 + 1) (W.alloc (.map #[] 0)) w2) (h3 : Ext (· = w.heap.size + 1) w2 w3) : Ext (fun _ => False) w w3 := by
  have hx := hx.trans (Ext.alloc W (.map #[] 0))
  have hs := hx.size
  have hs2 := h2.size
  have hs3 := h3.size
  exact ⟨h3.os.trans (h2.os.trans hx.os), h3.tape.trans (h2.tape.trans hx.tape), h3.output.trans (h2.output.trans hx.output), by omega, fun k hk _ => (h3.block k (by omega) (by omega)).trans ((h2.block k (by omega) (by omega)).trans (hx.block k hk (fun e => e)))⟩
set_option maxHeartbeats 3200000 in
set_option maxRecDepth 100000 in
theorem sound_pb {w : World} (x : Value) (A0 : Option Addr) (ca : Nat) (A : Option Addr) (co b off cf : Nat) {A1 D1 : Option Addr} {c1 d1 : Nat} (hR : PbR w b off A1 c1 D1 d1) : Calls Tryz.prog 25 #[x, .slice A0 0 ca, .agg (pbCs A co b off cf)] w fun e w' => e = .returned (.bool true) ∧ Ext (fun _ => False) w w' := by
  have hRl : b < w.heap.size := lt_cell hR.x0
  have hmk := @run_makeMap Tryz.prog
  obtain ⟨W, hW, hx, hsz, c1', c2', hb5⟩ := sound_start w A co b off cf
  have hRW := (hR.keep (hx.block b hRl (fun e => e))).keep (Below.heap_alloc W (.map #[] 0) b (by omega))
  have hk1 := few_pb (w := W.alloc (.map #[] 0)) x (.map (some W.heap.size)) A co b off cf (w.heap.size + 1 + 1) 100000 (by omega) (by omega) hRW (by omega) (c2'.alloc _)
  have hb6 : ∀ w2, Ext (· = w.heap.size + 1 + 1) (W.alloc (.map #[] 0)) w2 → Box5' w2 w.heap.size (.int .i64 13) (.int .i64 0) (.string ⟨#[]⟩) (.slice A 0 co) (.slice (some ⟨b, off, none⟩) 1 cf) := fun w2 hx2 =>
    hb5.keep ((hx2.block _ (by simp; omega) (by omega)).trans (Below.heap_alloc _ _ _ (by omega)))
  have hk2 : ∀ w2, Ext (· = w.heap.size + 1 + 1) (W.alloc (.map #[] 0)) w2 → Calls Tryz.prog 37 #[x, .agg (pbCs A co b off cf), .pointer (some ⟨w.heap.size + 1, 0, none⟩)] w2 _ := fun w2 hx2 =>
    soundIn_pb x A co b off cf (w.heap.size + 1) 100000 (by omega) (by omega) (hRW.keep (hx2.block b (by simp; omega) (by omega))) (by omega) ((c1'.alloc _).keep (hx2.block _ (by simp; omega) (by omega)))
  have HW := Lib.hid hW
  have HX := Lib.hid hx
  have HSZ := Lib.hid hsz
  have HB5 := Lib.hid hb5
  have HB6 := Lib.hid hb6
  have HK1 := Lib.hid hk1
  have HK2 := Lib.hid hk2
  clear hR hRW hW hx hsz c1' c2' hb5 hb6 hk1 hk2
  go_enter Tryz.func25, Tryz.ntmps25
  go_upto_region 2 with fail
  rw [← HW.out]
  go_wp2_with fail
  go_loopg [13] 0 (fun gk s13 wx => s13 = .int .i64 0 ∧ gk = 0 ∧ wx = W)
  case atStart => exact ⟨rfl, rfl, rfl⟩
  case round =>
    obtain ⟨rfl, rfl, hwr⟩ := hrel
    subst hwr
    obtain ⟨q0, q1, q2, q3, q4⟩ := HB5.out
    go_wp2_with (first
      | (go_at_call 37; refine (HK2.out w2 HX2.out).mono ?_; rintro e w3 ⟨rfl, hx3⟩; have HX3 := Lib.hid hx3; clear hx3)
      | (go_at_call 36; refine HK1.out.mono ?_; rintro e w2 ⟨rfl, hx2, _⟩; clear q0 q1 q2 q3 q4; obtain ⟨q0, q1, q2, q3, q4⟩ := HB6.out w2 hx2; have HX2 := Lib.hid hx2; clear hx2))
    go_ret
    exact ⟨rfl, sound_end HX.out HX2.out HX3.out⟩
end Go.Proofs.YtnmgocbmofbppaaGreatDoor
namespace Go.Proofs.YtnmgocbmofbppaaGreatDoor
open Go.ChangeShapes Go.WideShapes Go.ChangeAt Go.RowKit

theorem list_pick_each {α : Type} {Q : Nat → α → Prop} : ∀ n : Nat, (∀ i, i < n → ∃ t, Q i t) → ∃ ts : List α, ts.length = n ∧ ∀ i t, ts[i]? = some t → Q i t
  | 0, _ => ⟨[], rfl, fun i t e => by simp at e⟩
  | n + 1, h => by
    obtain ⟨ts, h1, h2⟩ := list_pick_each n fun i hi => h i (by omega)
    obtain ⟨t, ht⟩ := h n (by omega)
    refine ⟨ts ++ [t], by simp [h1], fun i u e => ?_⟩
    rcases Nat.lt_or_ge i n with hi | hi
    · rw [List.getElem?_append_left (by omega)] at e
      exact h2 i u e
    · rw [List.getElem?_append_right (by omega)] at e
      have hz : i - ts.length = 0 := by
        have := (List.getElem?_eq_some_iff.1 e).1
        simp at this
        omega
      rw [hz] at e
      simp at e
      subst e
      obtain rfl : i = n := by omega
      exact ht
theorem tys_at {w : World} {ok : Nat → Prop} {b off : Nat} (hb : ok b) : ∀ (ts : List Ty) (k : Nat), (∀ (i : Nat) (t : Ty), ts[i]? = some t → ∃ cs, TyV w ok t cs ∧ ∀ j v, cs[j]? = some v → w.cell? ⟨b, off + (k + i) * 5 + j, none⟩ = some v) → TysV w ok ts (some ⟨b, off, none⟩) k
  | [], _, _ => trivial
  | t :: ts, k, h => by
    obtain ⟨cs, h1, h2⟩ := h 0 t rfl
    exact ⟨⟨b, off, cs, rfl, hb, h1, fun j v e => by simpa using h2 j v e⟩, tys_at hb ts (k + 1) fun i t' e => by
      obtain ⟨cs, h1, h2⟩ := h (i + 1) t' (by simpa using e)
      exact ⟨cs, h1, fun j v e => by rw [show k + 1 + i = k + (i + 1) by omega]; exact h2 j v e⟩⟩
theorem fls_at {w : World} {ok : Nat → Prop} {b off : Nat} (hb : ok b) : ∀ (ts : List Fl) (k : Nat), (∀ (i : Nat) (t : Fl), ts[i]? = some t → ∃ cs, FlV w ok t cs ∧ ∀ j v, cs[j]? = some v → w.cell? ⟨b, off + (k + i) * 8 + j, none⟩ = some v) → FlsV w ok ts (some ⟨b, off, none⟩) k
  | [], _, _ => trivial
  | t :: ts, k, h => by
    obtain ⟨cs, h1, h2⟩ := h 0 t rfl
    exact ⟨⟨b, off, cs, rfl, hb, h1, fun j v e => by simpa using h2 j v e⟩, fls_at hb ts (k + 1) fun i t' e => by
      obtain ⟨cs, h1, h2⟩ := h (i + 1) t' (by simpa using e)
      exact ⟨cs, h1, fun j v e => by rw [show k + 1 + i = k + (i + 1) by omega]; exact h2 j v e⟩⟩
theorem nds_at {w : World} {ok : Nat → Prop} {b off : Nat} (hb : ok b) : ∀ (ts : AL Ty) (k : Nat), (∀ (i : Nat) (t : ByteArray × Ty), ts[i]? = some t → t.1.size ≤ big ∧ ∃ cs, TyV w ok t.2 cs ∧ ∀ j v, (Value.string t.1 :: cs)[j]? = some v → w.cell? ⟨b, off + (k + i) * 6 + j, none⟩ = some v) → NdV w ok ts (some ⟨b, off, none⟩) k
  | [], _, _ => trivial
  | t :: ts, k, h => by
    obtain ⟨h0, cs, h1, h2⟩ := h 0 t rfl
    exact ⟨⟨b, off, cs, rfl, hb, h0, h1, fun j v e => by simpa using h2 j v e⟩, nds_at hb ts (k + 1) fun i t' e => by
      obtain ⟨h0, cs, h1, h2⟩ := h (i + 1) t' (by simpa using e)
      exact ⟨h0, cs, h1, fun j v e => by rw [show k + 1 + i = k + (i + 1) by omega]; exact h2 j v e⟩⟩

theorem cellsOf3 : Tryz.prog.cellsOf 3 = 1 := by kernel_rfl
theorem cellsOf4 : Tryz.prog.cellsOf 4 = 1 := by kernel_rfl
theorem cellsOf9 : Tryz.prog.cellsOf 9 = 1 := by kernel_rfl
theorem cellsOf23 : Tryz.prog.cellsOf 23 = 1 := by kernel_rfl
theorem cellsOf24 : Tryz.prog.cellsOf 24 = 1 := by kernel_rfl
theorem cellsOf26 : Tryz.prog.cellsOf 26 = 5 := by kernel_rfl
theorem cellsOf32 : Tryz.prog.cellsOf 32 = 8 := by kernel_rfl
theorem cellsOf49 : Tryz.prog.cellsOf 49 = 6 := by kernel_rfl
theorem bytesOf26 : 1 ≤ Tryz.prog.bytesOf 26 := of_decide_eq_true (by kernel_rfl)
theorem bytesOf32 : 1 ≤ Tryz.prog.bytesOf 32 := of_decide_eq_true (by kernel_rfl)
theorem bytesOf49 : 1 ≤ Tryz.prog.bytesOf 49 := of_decide_eq_true (by kernel_rfl)
theorem reach_big : reachBytes = big := rfl

section
variable {H : Type} {enc : TypeId × Value → H} {w : World} {base : Nat} {sp : Nat → Bool} {held : Bool}
/-- What is read has no part beyond the reach. -/
def Wt (t : TypeId) (d : DataW H) : Prop := ∀ n ∈ d.weights Tryz.prog t, n ≤ reachBytes
theorem Wt.part {t : TypeId} {fs : Array Field} {xs : List (DataW H × List MemPlace)} (ht : Tryz.prog.underlying t = some (.struct fs)) (h : Wt t (.agg (xs.map (·.1)) : DataW H)) {i : Nat} {f : Field} {y : DataW H × List MemPlace} (hf : fs[i]? = some f) (hy : xs[i]? = some y) : Wt f.type y.1 := by
  intro n hn
  refine h n ?_
  simp only [DataW.weights, ht]
  exact DataW.weights_mem_each (j := i) (by simp [hf]) (by simp [hy]) n hn
theorem weightsAll_mem {P : Program} {e : TypeId} : ∀ {ds : List (DataW H)} {i : Nat} {d : DataW H}, ds[i]? = some d → ∀ n ∈ d.weights P e, n ∈ DataW.weightsAll P e ds
  | d0 :: ds, 0, d, h, n, hn => by
    simp at h
    subst h
    simp only [DataW.weightsAll, List.mem_append]
    exact .inl hn
  | d0 :: ds, i + 1, d, h, n, hn => by
    simp only [DataW.weightsAll, List.mem_append]
    exact .inr (weightsAll_mem (by simpa using h) n hn)
  | [], _, _, h, _, _ => by simp at h
theorem Wt.elem {t e : TypeId} {ds es : List (DataW H)} (ht : Tryz.prog.underlying t = some (.slice e)) (h : Wt t (.slice ds es : DataW H)) {i : Nat} {d : DataW H} (hd : ds[i]? = some d) : Wt e d := by
  intro n hn
  refine h n ?_
  simp only [DataW.weights, ht, List.mem_cons, List.mem_append]
  exact .inr (.inl (weightsAll_mem hd n hn))
theorem Wt.len {t e : TypeId} {ds es : List (DataW H)} (ht : Tryz.prog.underlying t = some (.slice e)) (hb : 1 ≤ Tryz.prog.bytesOf e) (h : Wt t (.slice ds es : DataW H)) : ds.length ≤ big := by
  have := h ((ds.length + es.length) * Tryz.prog.bytesOf e) (by simp [DataW.weights, ht])
  rw [reach_big] at this
  have h2 : ds.length * 1 ≤ (ds.length + es.length) * Tryz.prog.bytesOf e := Nat.mul_le_mul (by omega) hb
  omega
theorem Wt.str {t : TypeId} {s : ByteArray} (h : Wt t (.lit (.string s.data.toList) : DataW H)) : s.size ≤ big := by
  have := h s.data.toList.length (by simp [DataW.weights])
  rw [reach_big] at this
  simpa using this
theorem add2_zero (a : Addr) (m : Nat) : (a.add (0 * m)).add 0 = a := by simp [Addr.add]
theorem add2_lit (b o x y : Nat) : ((⟨b, o, none⟩ : Addr).add x).add y = ⟨b, o + x + y, none⟩ := by simp [Addr.add_lit]
/-- A slice, element by element. -/
theorem open_elems {t e : TypeId} {m fuel : Nat} {v : Value} {y : DataW H × List MemPlace} (ht : Tryz.prog.underlying t = some (.slice e)) (hm : Tryz.prog.cellsOf e = m) (hm0 : 0 < m) (hb : 1 ≤ Tryz.prog.bytesOf e) (h : DataW.trod enc Tryz.prog w base sp held fuel t [v] = some y) (hw : Wt t y.1) :
    v = .slice none 0 0 ∨ ∃ (b off len cap n : Nat) (a : Addr), n < fuel ∧ v = .slice (some a) len cap ∧ len ≤ big ∧ (0 < len → a = ⟨b, off, none⟩ ∧ b < w.heap.size) ∧ ∀ i, i < len → ∃ (cs : List Value) (z : DataW H × List MemPlace), cs.length = m ∧ DataW.trod enc Tryz.prog w base sp held n e cs = some z ∧ Wt e z.1 ∧ ∀ j u, cs[j]? = some u → w.cell? ⟨b, off + i * m + j, none⟩ = some u := by
  rcases DataW.trod_slice ht h with ⟨h0, _⟩ | ⟨a, len, cap, elems, rest, n, rfl, hv, rfl, hba, hl, hmx, hlen, hel, hsp, hns⟩
  · exact .inl (by simpa using h0)
  · simp at hv
    subst hv
    obtain ⟨b, off, spot⟩ := a
    have hlb : len ≤ big := by
      have := hw.len ht hb
      simpa [hlen] using this
    have hcell : ∀ i, i < len → ∃ (cs : List Value) (z : DataW H × List MemPlace), cs.length = m ∧ elems[i]? = some z ∧ DataW.trod enc Tryz.prog w base sp held n e cs = some z ∧ ∀ j, j < m → w.cell? (((⟨b, off, spot⟩ : Addr).add (i * m)).add j) = cs[j]? := fun i hi => by
      have hi2 := hel i hi
      obtain ⟨z, hz⟩ : ∃ z, elems[i]? = some z := ⟨_, List.getElem?_eq_getElem (by omega)⟩
      rw [hz, hm] at hi2
      obtain ⟨cs, h1, h2⟩ := Option.bind_eq_some_iff.1 hi2
      obtain ⟨_, h4, h5⟩ := World.cells?_some h1
      exact ⟨cs, z, h4, hz, h2, h5⟩
    have hspot : 0 < len → spot = none ∧ b < w.heap.size := fun hpos => by
      obtain ⟨cs, z, h1, _, _, h4⟩ := hcell 0 hpos
      have h5 := h4 0 hm0
      rw [List.getElem?_eq_getElem (by omega), add2_zero] at h5
      exact ⟨World.cell?_spot h5, World.block_lt_of_cell? w _ h5⟩
    refine .inr ⟨b, off, len, cap, n, ⟨b, off, spot⟩, by omega, rfl, hlb, fun hpos => ?_, fun i hi => ?_⟩
    · obtain ⟨rfl, hbl⟩ := hspot hpos
      exact ⟨rfl, hbl⟩
    · obtain ⟨cs, z, h1, h2, h3, h4⟩ := hcell i hi
      refine ⟨cs, z, h1, h3, hw.elem ht (i := i) (by simp [h2]), fun j u e => ?_⟩
      have hj : j < m := by have := (List.getElem?_eq_some_iff.1 e).1; omega
      have h5 := h4 j hj
      rw [e] at h5
      obtain ⟨rfl, _⟩ := hspot (by omega)
      rw [add2_lit] at h5
      exact h5
set_option maxRecDepth 100000 in
theorem open_fl {fuel : Nat} (ih : ∀ n, n < fuel → ∀ (cs : List Value) (y : DataW H × List MemPlace), DataW.trod enc Tryz.prog w base sp held n 26 cs = some y → Wt 26 y.1 → ∃ T : Ty, TyV w (· < w.heap.size) T cs) (cs : List Value) (y : DataW H × List MemPlace) (h : DataW.trod enc Tryz.prog w base sp held fuel 32 cs = some y) (hw : Wt 32 y.1) :
    ∃ f : Fl, FlV w (· < w.heap.size) f cs := by
  obtain ⟨xs, n, rfl, rfl, hl, hxl, hg⟩ := DataW.trod_struct Tryz.underlying32 h
  rw [cellsOf32] at hl
  match cs, hl with
  | [c0, c1, c2, c3, c4, c5, c6, c7], _ =>
  match xs, hxl with
  | [y0, y1, y2, y3], _ =>
  have g0 : DataW.trod enc Tryz.prog w base sp held n 9 [c0] = some y0 := by simpa [cellsOf9] using hg 0 _ rfl
  have g1 : DataW.trod enc Tryz.prog w base sp held n 9 [c1] = some y1 := by simpa [cellsOf9] using hg 1 _ rfl
  have g2 : DataW.trod enc Tryz.prog w base sp held n 4 [c2] = some y2 := by simpa [cellsOf4] using hg 2 _ rfl
  have g3 : DataW.trod enc Tryz.prog w base sp held n 26 [c3, c4, c5, c6, c7] = some y3 := by simpa [cellsOf26] using hg 3 _ rfl
  obtain ⟨s0, e0, q0, _⟩ := DataW.trod_string Tryz.underlying9 g0
  obtain ⟨s1, e1, q1, _⟩ := DataW.trod_string Tryz.underlying9 g1
  obtain ⟨b, e2, _⟩ := DataW.trod_bool Tryz.underlying4 g2
  have w0 : Wt 9 y0.1 := hw.part Tryz.underlying32 (i := 0) rfl rfl
  have w1 : Wt 9 y1.1 := hw.part Tryz.underlying32 (i := 1) rfl rfl
  have w3 : Wt 26 y3.1 := hw.part Tryz.underlying32 (i := 3) rfl rfl
  simp at e0 e1 e2
  subst e0 e1 e2 q0 q1
  obtain ⟨T, hT⟩ := ih n (by omega) _ y3 g3 w3
  exact ⟨.mk s0 s1 b T, _, rfl, ⟨w0.str, w1.str⟩, hT⟩
set_option maxRecDepth 100000 in
theorem opens : ∀ (N fuel : Nat), fuel ≤ N → (∀ (cs : List Value) (y : DataW H × List MemPlace), DataW.trod enc Tryz.prog w base sp held fuel 26 cs = some y → Wt 26 y.1 → ∃ T : Ty, TyV w (· < w.heap.size) T cs)
  | 0, 0, _ => fun cs y h => by simp [DataW.trod] at h
  | N + 1, fuel, hN => fun cs y h hw => by
    have ih := opens N
    obtain ⟨xs, n, rfl, rfl, hl, hxl, hg⟩ := DataW.trod_struct Tryz.underlying26 h
    rw [cellsOf26] at hl
    match cs, hl with
    | [c0, c1, c2, c3, c4], _ =>
    match xs, hxl with
    | [y0, y1, y2, y3, y4], _ =>
    have g0 : DataW.trod enc Tryz.prog w base sp held n 3 [c0] = some y0 := by simpa [cellsOf3] using hg 0 _ rfl
    have g1 : DataW.trod enc Tryz.prog w base sp held n 3 [c1] = some y1 := by simpa [cellsOf3] using hg 1 _ rfl
    have g2 : DataW.trod enc Tryz.prog w base sp held n 9 [c2] = some y2 := by simpa [cellsOf9] using hg 2 _ rfl
    have g3 : DataW.trod enc Tryz.prog w base sp held n 23 [c3] = some y3 := by simpa [cellsOf23] using hg 3 _ rfl
    have g4 : DataW.trod enc Tryz.prog w base sp held n 24 [c4] = some y4 := by simpa [cellsOf24] using hg 4 _ rfl
    have w2 : Wt 9 y2.1 := hw.part Tryz.underlying26 (i := 2) rfl rfl
    have w3 : Wt 23 y3.1 := hw.part Tryz.underlying26 (i := 3) rfl rfl
    have w4 : Wt 24 y4.1 := hw.part Tryz.underlying26 (i := 4) rfl rfl
    obtain ⟨k, e0, _⟩ := DataW.trod_int Tryz.underlying3 g0
    obtain ⟨m, e1, _⟩ := DataW.trod_int Tryz.underlying3 g1
    obtain ⟨s, e2, q2, _⟩ := DataW.trod_string Tryz.underlying9 g2
    simp at e0 e1 e2
    subst e0 e1 e2 q2
    have hs := w2.str
    have ho : ∃ (A : Option Addr) (c : Nat) (ts : List Ty), c3 = .slice A ts.length c ∧ ts.length ≤ big ∧ TysV w (· < w.heap.size) ts A 0 := by
      rcases open_elems Tryz.underlying23 cellsOf26 (by decide) bytesOf26 g3 w3 with rfl | ⟨b, off, len, cap, n', a, hn', rfl, hlb, ha, hc⟩
      · exact ⟨none, 0, [], rfl, Nat.zero_le _, trivial⟩
      · obtain ⟨ts, h1, h2⟩ := list_pick_each (Q := fun i t => ∃ cs, TyV w (· < w.heap.size) t cs ∧ ∀ j u, cs[j]? = some u → w.cell? ⟨b, off + i * 5 + j, none⟩ = some u) len fun i hi => by
          obtain ⟨cs, z, _, hz, hwz, hcz⟩ := hc i hi
          obtain ⟨T, hT⟩ := ih n' (by omega) cs z hz hwz
          exact ⟨T, cs, hT, hcz⟩
        cases len with
        | zero =>
          obtain rfl := List.eq_nil_of_length_eq_zero h1
          exact ⟨some a, cap, [], rfl, Nat.zero_le _, trivial⟩
        | succ len =>
          obtain ⟨rfl, hbl⟩ := ha (by omega)
          exact ⟨_, cap, ts, by rw [h1], by omega, tys_at (ok := (· < w.heap.size)) hbl ts 0 fun i t e => by
            obtain ⟨cs, h3, h4⟩ := h2 i t e
            exact ⟨cs, h3, fun j u e => by rw [Nat.zero_add]; exact h4 j u e⟩⟩
    have hf : ∃ (A : Option Addr) (c : Nat) (ts : List Fl), c4 = .slice A ts.length c ∧ ts.length ≤ big ∧ FlsV w (· < w.heap.size) ts A 0 := by
      rcases open_elems Tryz.underlying24 cellsOf32 (by decide) bytesOf32 g4 w4 with rfl | ⟨b, off, len, cap, n', a, hn', rfl, hlb, ha, hc⟩
      · exact ⟨none, 0, [], rfl, Nat.zero_le _, trivial⟩
      · obtain ⟨ts, h1, h2⟩ := list_pick_each (Q := fun i t => ∃ cs, FlV w (· < w.heap.size) t cs ∧ ∀ j u, cs[j]? = some u → w.cell? ⟨b, off + i * 8 + j, none⟩ = some u) len fun i hi => by
          obtain ⟨cs, z, _, hz, hwz, hcz⟩ := hc i hi
          obtain ⟨f, hF⟩ := open_fl (fun n'' hn'' => ih n'' (by omega)) cs z hz hwz
          exact ⟨f, cs, hF, hcz⟩
        cases len with
        | zero =>
          obtain rfl := List.eq_nil_of_length_eq_zero h1
          exact ⟨some a, cap, [], rfl, Nat.zero_le _, trivial⟩
        | succ len =>
          obtain ⟨rfl, hbl⟩ := ha (by omega)
          exact ⟨_, cap, ts, by rw [h1], by omega, fls_at (ok := (· < w.heap.size)) hbl ts 0 fun i t e => by
            obtain ⟨cs, h3, h4⟩ := h2 i t e
            exact ⟨cs, h3, fun j u e => by rw [Nat.zero_add]; exact h4 j u e⟩⟩
    obtain ⟨A, c, ts, rfl, hl1, hv1⟩ := ho
    obtain ⟨D, d, fs, rfl, hl2, hv2⟩ := hf
    exact ⟨.mk k m s ts fs, A, c, D, d, rfl, ⟨hs, hl1, hl2⟩, hv1, hv2⟩
/-- A slice of fields. -/
theorem open_fields {fuel : Nat} {v : Value} {y : DataW H × List MemPlace} (h : DataW.trod enc Tryz.prog w base sp held fuel 24 [v] = some y) (hw : Wt 24 y.1) : ∃ (A : Option Addr) (c : Nat) (ts : List Fl), v = .slice A ts.length c ∧ ts.length ≤ big ∧ FlsV w (· < w.heap.size) ts A 0 := by
  rcases open_elems Tryz.underlying24 cellsOf32 (by decide) bytesOf32 h hw with rfl | ⟨b, off, len, cap, n', a, hn', rfl, hlb, ha, hc⟩
  · exact ⟨none, 0, [], rfl, Nat.zero_le _, trivial⟩
  · obtain ⟨ts, h1, h2⟩ := list_pick_each (Q := fun i t => ∃ cs, FlV w (· < w.heap.size) t cs ∧ ∀ j u, cs[j]? = some u → w.cell? ⟨b, off + i * 8 + j, none⟩ = some u) len fun i hi => by
      obtain ⟨cs, z, _, hz, hwz, hcz⟩ := hc i hi
      obtain ⟨f, hF⟩ := open_fl (fun n'' _ => opens n'' n'' (Nat.le_refl _)) cs z hz hwz
      exact ⟨f, cs, hF, hcz⟩
    cases len with
    | zero =>
      obtain rfl := List.eq_nil_of_length_eq_zero h1
      exact ⟨some a, cap, [], rfl, Nat.zero_le _, trivial⟩
    | succ len =>
      obtain ⟨rfl, hbl⟩ := ha (by omega)
      exact ⟨_, cap, ts, by rw [h1], by omega, fls_at (ok := (· < w.heap.size)) hbl ts 0 fun i t e => by
        obtain ⟨cs, h3, h4⟩ := h2 i t e
        exact ⟨cs, h3, fun j u e => by rw [Nat.zero_add]; exact h4 j u e⟩⟩
set_option maxRecDepth 100000 in
/-- A slice of named types. -/
theorem open_named {fuel : Nat} {v : Value} {y : DataW H × List MemPlace} (h : DataW.trod enc Tryz.prog w base sp held fuel 22 [v] = some y) (hw : Wt 22 y.1) : ∃ (A : Option Addr) (c : Nat) (l : AL Ty), v = .slice A l.length c ∧ l.length ≤ big ∧ NdV w (· < w.heap.size) l A 0 := by
  rcases open_elems Tryz.underlying22 cellsOf49 (by decide) bytesOf49 h hw with rfl | ⟨b, off, len, cap, n', a, hn', rfl, hlb, ha, hc⟩
  · exact ⟨none, 0, [], rfl, Nat.zero_le _, trivial⟩
  · obtain ⟨ts, h1, h2⟩ := list_pick_each (Q := fun i (t : ByteArray × Ty) => t.1.size ≤ big ∧ ∃ cs, TyV w (· < w.heap.size) t.2 cs ∧ ∀ j u, (Value.string t.1 :: cs)[j]? = some u → w.cell? ⟨b, off + i * 6 + j, none⟩ = some u) len fun i hi => by
      obtain ⟨cs, z, hcl, hz, hwz, hcz⟩ := hc i hi
      obtain ⟨xs, n, rfl, rfl, hl, hxl, hg⟩ := DataW.trod_struct Tryz.underlying49 hz
      match cs, hcl with
      | [c0, c1, c2, c3, c4, c5], _ =>
      match xs, hxl with
      | [y0, y1], _ =>
      have g0 : DataW.trod enc Tryz.prog w base sp held n 9 [c0] = some y0 := by simpa [cellsOf9] using hg 0 _ rfl
      have g1 : DataW.trod enc Tryz.prog w base sp held n 26 [c1, c2, c3, c4, c5] = some y1 := by simpa [cellsOf26] using hg 1 _ rfl
      obtain ⟨s0, e0, q0, _⟩ := DataW.trod_string Tryz.underlying9 g0
      have w0 : Wt 9 y0.1 := hwz.part Tryz.underlying49 (i := 0) rfl rfl
      have w1 : Wt 26 y1.1 := hwz.part Tryz.underlying49 (i := 1) rfl rfl
      simp at e0
      subst e0 q0
      obtain ⟨T, hT⟩ := opens n n (Nat.le_refl _) _ y1 g1 w1
      exact ⟨(s0, T), w0.str, _, hT, hcz⟩
    cases len with
    | zero =>
      obtain rfl := List.eq_nil_of_length_eq_zero h1
      exact ⟨some a, cap, [], rfl, Nat.zero_le _, trivial⟩
    | succ len =>
      obtain ⟨rfl, hbl⟩ := ha (by omega)
      exact ⟨_, cap, ts, by rw [h1], by omega, nds_at (ok := (· < w.heap.size)) hbl ts 0 fun i t e => by
        obtain ⟨h0, cs, h3, h4⟩ := h2 i t e
        exact ⟨h0, cs, h3, fun j u e => by rw [Nat.zero_add]; exact h4 j u e⟩⟩
end
end Go.Proofs.YtnmgocbmofbppaaGreatDoor
