/- impl: size. bufio.NewReader over pieces. NewDecoder over pieces. impl: decoder, of one piece and no options. The decoder as 'decoder' lays it. impl: Tokens: what its rounds keep. -/
import Derived.Test.YthhmnnojgjpibaaGreatDoorA18
import Derived.Test.YthhmnnojgjpibaaGreatDoorA15
import Derived.Stop.Asserts
import Derived.Laws.MakeOwn

set_option linter.unusedVariables false
set_option linter.unusedSimpArgs false

namespace Go.Proofs.YthhmnnojgjpibaaGreatDoor
open Go Go.RowKit Go.Lib

attribute [local go_sem ↓] Go.wp_at_zero Go.wp_at_succ
/-- The cells of an attribute, in a row of whatever type. -/
theorem own_at {w : World} {b e : Nat} {ats : List At} {A : Option Addr} {c : Nat} (h : w.ownsRow b e 3 (.slice A ats.length c) ats.length (ats.flatMap atC)) (hne : 0 < ats.length) : ∃ g, A = some ⟨g, 0, none⟩ ∧ ats.length ≤ c ∧ ∀ i x t0 v, ats[i]? = some (x, t0, v) →
    w.cell? ⟨g, i * 3, none⟩ = some (.string ⟨#[]⟩) ∧ w.cell? ⟨g, i * 3 + 1, none⟩ = some (.string ⟨#[x]⟩) ∧ w.cell? ⟨g, i * 3 + 2, none⟩ = some (.string ⟨v.toArray⟩) := by
  have hc := fun g => h.cells (g := g)
  rcases h.2 with ⟨h1, h2⟩ | ⟨g, cap, cur, h1, h2, h3, h4, _⟩
  · omega
  · simp only [Value.slice.injEq] at h1
    obtain ⟨rfl, _, rfl⟩ := h1
    refine ⟨g, rfl, h4, fun i x t0 v hi => ?_⟩
    obtain ⟨k0, k1, k2⟩ := atC_at hi
    have e : ∀ j, (⟨g, 0, none⟩ : Addr).add j = ⟨g, j, none⟩ := fun j => by unfold Addr.add; split <;> simp_all
    exact ⟨by rw [← e]; exact hc g rfl _ _ k0, by rw [← e]; exact hc g rfl _ _ k1, by rw [← e]; exact hc g rfl _ _ k2⟩
set_option maxHeartbeats 8000000 in
set_option maxRecDepth 100000 in
theorem size_ok {ats : List At} {A : Option Addr} {c : Nat} {k o l q : Int} {s1 s2 s3 : ByteArray} {w : World} (hA : ats = [] ∨ ∃ b e, w.ownsRow b e 3 (.slice A ats.length c) ats.length (ats.flatMap atC)) (hl : ats.length ≤ 100) (hR : ∀ a ∈ ats, AtR a) (h1 : s1.size ≤ 1000) (h2 : s2.size ≤ 1000) (h3 : s3.size ≤ 1000) :
    Calls Tryz.prog 16 #[.agg #[.int .i64 k, .string s1, .string s2, .slice A ats.length c, .string s3, .int .i64 o, .int .i64 l, .int .i64 q]] w fun e w' => ∃ x : Int, e = .returned (.int .i64 x) ∧ 0 ≤ x ∧ x ≤ 300000 ∧ Below w.heap.size w w' := by
  have HA := Lib.hid hA
  have HR := Lib.hid hR
  clear hA hR
  have b1 : (s1.size : Int) ≤ 1000 := by omega
  have b2 : (s2.size : Int) ≤ 1000 := by omega
  have b3 : (s3.size : Int) ≤ 1000 := by omega
  go_enter Tryz.func16, Tryz.ntmps16
  go_wp2
  go_loopg [3, 21] ats.length (fun gk s3' s21 wx => ∃ (i : Nat) (x : Int), i ≤ ats.length ∧ gk = ats.length - i ∧ s21 = .int .i64 (i : Int) ∧ s3' = .int .i64 x ∧ 0 ≤ x ∧ x ≤ 3004 + (i : Int) * 1005 ∧ Below w.heap.size w wx)
  case atStart => exact ⟨0, _, Nat.zero_le _, rfl, rfl, rfl, by omega, by omega, Below.alloc1 _ _⟩
  case round =>
    obtain ⟨i, x, hi, rfl, rfl, rfl, hx0, hx1, hb⟩ := hrel
    by_cases hlt : i < ats.length
    · obtain ⟨⟨n0, t0, y⟩, ha⟩ : ∃ a, ats[i]? = some a := ⟨_, List.getElem?_eq_getElem hlt⟩
      have hown : ∃ b e, w.ownsRow b e 3 (.slice A ats.length c) ats.length (ats.flatMap atC) := by
        rcases HA.out with rfl | h
        · simp at hlt
        · exact h
      obtain ⟨b, e, hown⟩ := hown
      obtain ⟨g, rfl, hgc, hcells⟩ := own_at hown (by omega)
      obtain ⟨k0, k1, k2⟩ := hcells _ _ _ _ ha
      have hgl : g < w.heap.size := lt_of_cell k0
      have k0' := (hb.cell (p := ⟨g, i * 3, none⟩) hgl).trans k0
      have k1' := (hb.cell (p := ⟨g, i * 3 + 1, none⟩) hgl).trans k1
      have k2' := (hb.cell (p := ⟨g, i * 3 + 2, none⟩) hgl).trans k2
      have hgr : g < wr.heap.size := Nat.lt_of_lt_of_le hgl hb.size
      have hi1 : (0 : Int) ≤ (i : Int) := by omega
      have hi2 : (i : Int) < (ats.length : Int) := by omega
      obtain ⟨sy, hsy⟩ : ∃ sy : ByteArray, sy = ⟨y.toArray⟩ := ⟨_, rfl⟩
      have hy : (sy.size : Int) ≤ 1000 := by
        have this : y.length ≤ 1000 := (HR.out _ (List.mem_of_getElem? ha)).2.2.2.2
        rw [hsy]
        show ((y.toArray.size : Nat) : Int) ≤ 1000
        simp
        omega
      rw [← hsy] at k2'
      have hib : (i : Int) ≤ 100 := by omega
      have HBB := Lib.hid hb
      clear hb hcells k0 k1 k2 hown hsy
      go_wp2
      go_roundg (ats.length - (i + 1))
      case measure => omega
      case rel => exact ⟨i + 1, _, hlt, rfl, by simp, rfl, by omega, by push_cast; omega, HBB.out.trans ((Below.alloc1 _ _).mono HBB.out.size)⟩
    · obtain rfl : i = ats.length := by omega
      have HBB := Lib.hid hb
      clear hb
      go_wp2
      go_ret
      exact ⟨_, rfl, hx0, by omega, HBB.out⟩

end Go.Proofs.YthhmnnojgjpibaaGreatDoor
namespace Go.Proofs.YthhmnnojgjpibaaGreatDoor
open Go Go.RowKit Go.Lib

attribute [local go_sem ↓] Go.wp_at_zero Go.wp_at_succ
theorem ta_rd133 (x : Value) (W : World) : (Instr.typeAssert (.iface 65 x) 111 133 true).run Tryz.prog W = .ok (.tuple #[.pointer none, .bool false]) W := by kernel_rfl
theorem ta_rd71 (x : Value) (W : World) : (Instr.typeAssert (.iface 65 x) 111 71 true).run Tryz.prog W = .ok (.tuple #[.nilIface, .bool false]) W :=
  run_typeAssert_lacksB Tryz.underlying71 (by kernel_rfl) (by kernel_rfl) x 111 W
theorem make4096 : ∃ cs : Array Value, cs.size = 4096 ∧ ∀ W : World, (Instr.makeSlice 39 (.int .i64 (max 4096 16)) (.int .i64 (max 4096 16))).run Tryz.prog W = .ok (.slice (some ⟨W.heap.size, 0, none⟩) 4096 4096) (W.alloc (.cells cs 5)) := by
  obtain ⟨i, hi, hz, h1, h2⟩ := info_parts info5
  refine ⟨madeCells (Value.int .u8 0).cells 4096, size_madeCells _ _, fun W => ?_⟩
  have := run_makeSlice (P := Tryz.prog) W 39 5 i (.int .u8 0) Tryz.underlying39 hi hz .i64 .i64 4096 4096 (by omega) (by omega) (by rw [h1]; decide) (by rw [h2]; decide) (by decide)
  rw [h1] at this
  exact this
/-- The cells of a new bufio.Reader. -/
abbrev rdO (ba : Nat) (x : Value) : Obj := .cells #[.slice (some ⟨ba, 0, none⟩) 4096 4096, x, .int .i64 0, .int .i64 0, .nilIface, .int .i64 (-1), .int .i64 (-1)] 186
set_option maxHeartbeats 2000000 in
theorem reset73 {F : Nat → Prop} {br ba : Nat} {x : Value} {w : World} (hk : Kp w F br (.cells #[.slice none 0 0, .nilIface, .int .i64 0, .int .i64 0, .nilIface, .int .i64 0, .int .i64 0] 186)) :
    Calls Tryz.prog 73 #[.pointer (some ⟨br, 0, none⟩), .slice (some ⟨ba, 0, none⟩) 4096 4096, .iface 65 x] w fun e w' => e = .returned (.tuple #[]) ∧ Kp w' F br (rdO ba (.iface 65 x)) ∧ Ext (fun k => k = br) w w' := by
  have c0 : w.cell? ⟨br, 0, none⟩ = some (.slice none 0 0) := hk.cell 0
  have c1 : w.cell? ⟨br, 1, none⟩ = some .nilIface := hk.cell 1
  have c2 : w.cell? ⟨br, 2, none⟩ = some (.int .i64 0) := hk.cell 2
  have c3 : w.cell? ⟨br, 3, none⟩ = some (.int .i64 0) := hk.cell 3
  have c4 : w.cell? ⟨br, 4, none⟩ = some .nilIface := hk.cell 4
  have c5 : w.cell? ⟨br, 5, none⟩ = some (.int .i64 0) := hk.cell 5
  have c6 : w.cell? ⟨br, 6, none⟩ = some (.int .i64 0) := hk.cell 6
  have hf := hk.frozen
  have HK := Lib.hid hk
  clear hk
  go_enter Tryz.func73, Tryz.ntmps73
  go_wp2
  go_end0
  have e := fun (W : World) (i : Nat) (v : Value) => Ext.setCell (S := fun k => k = br) W (a := ⟨br, i, none⟩) rfl v
  refine ⟨rfl, ((((((HK.out.set_ 0 _).set_ 1 _).set_ 2 _).set_ 3 _).set_ 4 _).set_ 5 _).set_ 6 _, ?_⟩
  exact ((((((e _ _ _).trans (e _ _ _)).trans (e _ _ _)).trans (e _ _ _)).trans (e _ _ _)).trans (e _ _ _)).trans (e _ _ _)
set_option maxHeartbeats 4000000 in
set_option maxRecDepth 100000 in
theorem newReader_ok {pc : Nat} {w : World} :
    Calls Tryz.prog 56 #[.iface 65 (.pointer (some ⟨pc, 0, none⟩)), .int .i64 4096] w fun e w' => e = .returned (.pointer (some ⟨w.heap.size, 0, none⟩)) ∧ Kp w' (fun _ => False) w.heap.size (rdO (w.heap.size + 1) (.iface 65 (.pointer (some ⟨pc, 0, none⟩)))) ∧ (∃ cs : Array Value, cs.size = 4096 ∧ w'.heap[w.heap.size + 1]? = some (.cells cs 5 (0, 0))) ∧ Below w.heap.size w w' ∧ w.heap.size + 2 ≤ w'.heap.size := by
  have t1 := ta_rd133 (.pointer (some ⟨pc, 0, none⟩))
  obtain ⟨cs, hcs, hms⟩ := make4096
  go_enter Tryz.func56, Tryz.ntmps56
  go_wp2_with (go_at_call 73; refine Hid.out ?_)
  refine Lib.hid ?_
  have hk : Kp ((w.alloc (.cells #[.slice none 0 0, .nilIface, .int .i64 0, .int .i64 0, .nilIface, .int .i64 0, .int .i64 0] 186)).alloc (.cells cs 5)) (fun _ => False) w.heap.size (.cells #[.slice none 0 0, .nilIface, .int .i64 0, .int .i64 0, .nilIface, .int .i64 0, .int .i64 0] 186) := (Kp.new_ w (fun _ e => e.elim) _).alloc _
  have hk2 := heap_alloc_new (w.alloc (.cells #[.slice none 0 0, .nilIface, .int .i64 0, .int .i64 0, .nilIface, .int .i64 0, .int .i64 0] 186)) (.cells cs 5)
  rw [World.size_alloc] at hk2
  have hb : Below w.heap.size w ((w.alloc (.cells #[.slice none 0 0, .nilIface, .int .i64 0, .int .i64 0, .nilIface, .int .i64 0, .int .i64 0] 186)).alloc (.cells cs 5)) := ⟨rfl, rfl, rfl, by simp; omega, fun k h => (Below.heap_alloc _ _ k (by simp; omega)).trans (Below.heap_alloc w _ k h)⟩
  have hs : ((w.alloc (.cells #[.slice none 0 0, .nilIface, .int .i64 0, .int .i64 0, .nilIface, .int .i64 0, .int .i64 0] 186)).alloc (.cells cs 5)).heap.size = w.heap.size + 2 := by simp
  have HH := Lib.hid (⟨hk2, hb, hs⟩ : _ ∧ _ ∧ _)
  refine (reset73 hk).mono ?_
  clear hk hk2 hb hs
  rintro e w2 ⟨rfl, hk3, e3⟩
  have HF := Lib.hid (⟨hk3, e3⟩ : _ ∧ _)
  clear hk3 e3
  go_wp2
  go_ret
  obtain ⟨r1, r2, r3⟩ := HH.out
  obtain ⟨r4, r5⟩ := HF.out
  refine ⟨rfl, r4, ⟨cs, hcs, (r5.block _ (by rw [r3]; omega) (by omega)).trans r1⟩, r2.trans (r5.below (fun k e => by omega) (by rw [r3]; omega)), by rw [← r3]; exact r5.size⟩

end Go.Proofs.YthhmnnojgjpibaaGreatDoor
namespace Go.Proofs.YthhmnnojgjpibaaGreatDoor
open Go Go.RowKit Go.Lib

attribute [local go_sem ↓] Go.wp_at_zero Go.wp_at_succ
theorem Below.alloc2 (w : World) (o o' : Obj) : Below w.heap.size w ((w.alloc o).alloc o') := ⟨rfl, rfl, rfl, by simp; omega, fun k h => (Below.heap_alloc _ _ k (by simp; omega)).trans (Below.heap_alloc w _ k h)⟩
theorem _root_.Go.RowKit.Below.set1' {B : Nat} {w w' : World} (h : Below B w w') {b : Nat} (hb : B ≤ b) (i : Nat) (v : Value) : Below B w (w'.setCell ⟨b, i, none⟩ v) :=
  ⟨h.os, h.tape, h.output, by simpa [World.setCell] using h.size, fun k hk => (Below.heap_setCell w' ⟨b, i, none⟩ v k (by show k ≠ b; omega)).trans (h.block k hk)⟩
/-- A new bufio.Reader: its block, its array. -/
def NewRd (pc : Nat) (w w' : World) : Prop := Kp w' (fun _ => False) w.heap.size (rdO (w.heap.size + 1) (.iface 65 (.pointer (some ⟨pc, 0, none⟩)))) ∧ (∃ cs : Array Value, cs.size = 4096 ∧ w'.heap[w.heap.size + 1]? = some (.cells cs 5 (0, 0))) ∧ Below w.heap.size w w' ∧ w.heap.size + 2 ≤ w'.heap.size
set_option maxHeartbeats 4000000 in
theorem newReader35 {pc : Nat} {w : World} :
    Calls Tryz.prog 35 #[.iface 65 (.pointer (some ⟨pc, 0, none⟩))] w fun e w' => e = .returned (.pointer (some ⟨w.heap.size, 0, none⟩)) ∧ NewRd pc w w' := by
  go_enter Tryz.func35, Tryz.ntmps35
  go_wp2_with (go_at_call 56; refine newReader_ok.mono ?_; rintro e w2 ⟨rfl, h2⟩; have H2 := Lib.hid h2; clear h2)
  go_ret
  exact ⟨rfl, H2.out⟩
set_option maxHeartbeats 4000000 in
theorem switch_ok {dd pc : Nat} {w : World} {cs : Array Value} (hk : Kp w (fun _ => False) dd (.cells cs 78)) (h5 : cs[5]? = some .nilIface) :
    Calls Tryz.prog 24 #[.pointer (some ⟨dd, 0, none⟩), .iface 65 (.pointer (some ⟨pc, 0, none⟩))] w fun e w' => e = .returned (.tuple #[]) ∧ ∃ w1, NewRd pc w w1 ∧ w' = w1.setCell ⟨dd, 5, none⟩ (.iface 133 (.pointer (some ⟨w.heap.size, 0, none⟩))) := by
  have t1 := ta_rd71 (.pointer (some ⟨pc, 0, none⟩))
  have HK := Lib.hid hk
  have hl := hk.lt
  clear hk
  go_enter Tryz.func24, Tryz.ntmps24
  go_wp2_with (go_at_call 35; refine newReader35.mono ?_; rintro e w2 ⟨rfl, h2⟩; have hk2 : Kp w2 (fun _ => False) dd (.cells cs 78) := ⟨fun e => e, (h2.2.2.1.block dd hl).trans HK.out.2⟩; have c5 : w2.cell? ⟨dd, 5, none⟩ = some .nilIface := (hk2.cell 5).trans h5; have f5 := hk2.frozen 5; have H2 := Lib.hid h2; clear h2 hk2)
  go_end0
  exact ⟨rfl, w2, H2.out, rfl⟩
/-- The cells of a new decoder, ahead of its reader. -/
abbrev decCs (m : Nat) : Array Value := #[.bool true, .slice none 0 0, .map none, .nilFunc, .string ⟨#[]⟩, .nilIface, .nilIface, .slice none 0 0, .int .i64 0, .int .i8 0, .pointer none, .pointer none, .int .i64 0, .pointer none, .bool false, .string ⟨#[]⟩, .string ⟨#[]⟩, .nilIface, .int .i64 (-1), .map (some m), .nilIface, .int .i64 1, .int .i64 0, .int .i64 0]
/-- A new decoder: its map, its struct, its reader's struct and array, in this order. -/
structure NewDec (pc b : Nat) (w w' : World) : Prop where
  map : w'.heap[b]? = some (.map #[] 0)
  dec : w'.heap[b + 1]? = some (.cells ((decCs b).setIfInBounds 5 (.iface 133 (.pointer (some ⟨b + 2, 0, none⟩)))) 78 (0, 0))
  rd : w'.heap[b + 2]? = some (rdO (b + 3) (.iface 65 (.pointer (some ⟨pc, 0, none⟩))))
  row : ∃ cs : Array Value, cs.size = 4096 ∧ w'.heap[b + 3]? = some (.cells cs 5 (0, 0))
  below : Below b w w'
  size : b + 4 ≤ w'.heap.size
set_option maxHeartbeats 4000000 in
set_option maxRecDepth 100000 in
theorem newDecoder_ok {pc : Nat} {w : World} :
    Calls Tryz.prog 18 #[.iface 65 (.pointer (some ⟨pc, 0, none⟩))] w fun e w' => e = .returned (.pointer (some ⟨w.heap.size + 1, 0, none⟩)) ∧ NewDec pc w.heap.size w w' := by
  have hmm := @run_makeMap Tryz.prog
  go_enter Tryz.func18, Tryz.ntmps18
  go_wp2_with (go_at_call 24; refine Hid.out ?_)
  refine Lib.hid ?_
  obtain ⟨W, hW⟩ : ∃ W, W = (w.alloc (.map #[] 0)).alloc (.cells (decCs w.heap.size) 78) := ⟨_, rfl⟩
  have hs : W.heap.size = w.heap.size + 2 := by rw [hW]; simp
  have h0 : W.heap[w.heap.size]? = some (.map #[] 0) := by rw [hW]; exact (Below.heap_alloc _ _ _ (by simp)).trans (heap_alloc_new w _)
  have h1 : W.heap[w.heap.size + 1]? = some (.cells (decCs w.heap.size) 78 (0, 0)) := by
    have := heap_alloc_new (w.alloc (.map #[] 0)) (.cells (decCs w.heap.size) 78)
    rw [World.size_alloc] at this
    rw [hW]; exact this
  have hb : Below w.heap.size w W := by rw [hW]; exact (Below.alloc2 w _ _)
  rw [← hW]
  clear hW
  have HH := Lib.hid (⟨hs, h0, hb⟩ : _ ∧ _ ∧ _)
  refine (switch_ok (⟨fun e => e, h1⟩ : Kp W (fun _ => False) (w.heap.size + 1) (.cells (decCs w.heap.size) 78)) rfl).mono ?_
  rintro e w2 ⟨rfl, w1, hn, hw2⟩
  have HF := Lib.hid (⟨hn, hw2, h1⟩ : _ ∧ _ ∧ _)
  clear hs h0 h1 hb hn hw2
  go_wp2
  go_ret
  obtain ⟨r1, r2, r3⟩ := HH.out
  obtain ⟨⟨n1, n2, n3, n4⟩, rfl, n6⟩ := HF.out
  rw [r1] at n1 n2 n3 n4
  have hd : w1.heap[w.heap.size + 1]? = some (.cells (decCs w.heap.size) 78 (0, 0)) := (n3.block _ (by omega)).trans n6
  have ho : ∀ k, k ≠ w.heap.size + 1 → (w1.setCell ⟨w.heap.size + 1, 5, none⟩ (.iface 133 (.pointer (some ⟨W.heap.size, 0, none⟩)))).heap[k]? = w1.heap[k]? := fun k hk => Below.heap_setCell _ _ _ k hk
  refine ⟨rfl, ⟨(ho _ (by omega)).trans ((n3.block _ (by omega)).trans r2), ?_, (ho _ (by omega)).trans n1.2, ?_, ?_, ?_⟩⟩
  · rw [r1]; exact heap_setCell_same w1 _ 5 _ 78 _ hd
  · obtain ⟨cs, h1, h2⟩ := n2
    exact ⟨cs, h1, (ho _ (by omega)).trans h2⟩
  · exact (r3.trans (n3.mono (by omega))).set1' (by omega) _ _
  · simp [World.setCell]; omega

end Go.Proofs.YthhmnnojgjpibaaGreatDoor
namespace Go.Proofs.YthhmnnojgjpibaaGreatDoor
open Go Go.RowKit Go.Lib

attribute [local go_sem ↓] Go.wp_at_zero Go.wp_at_succ
/-- A decoder laid by 'decoder': the pieces' block stands at b + 1 (b: the heap's size ahead), then NewDec from b + 2 on. -/
structure DecNew (pl : Nat) (w w' : World) : Prop where
  pc : w'.heap[w.heap.size + 1]? = some (.cells #[.slice (some ⟨pl, 0, none⟩) 1 1, .int .i64 0, .int .i64 0] 67 (0, 0))
  map : w'.heap[w.heap.size + 2]? = some (.map #[] 0)
  dec : w'.heap[w.heap.size + 3]? = some (.cells ((decCs (w.heap.size + 2)).setIfInBounds 5 (.iface 133 (.pointer (some ⟨w.heap.size + 4, 0, none⟩)))) 78 (0, 0))
  rd : w'.heap[w.heap.size + 4]? = some (rdO (w.heap.size + 5) (.iface 65 (.pointer (some ⟨w.heap.size + 1, 0, none⟩))))
  row : ∃ cs : Array Value, cs.size = 4096 ∧ w'.heap[w.heap.size + 5]? = some (.cells cs 5 (0, 0))
  below : Below w.heap.size w w'
  size : w.heap.size + 6 ≤ w'.heap.size
set_option maxHeartbeats 4000000 in
set_option maxRecDepth 100000 in
theorem decoder_ok {pl : Nat} {X : ByteArray} {w : World} (hX : X.size ≤ 90000) (hp : w.cell? ⟨pl, 0, none⟩ = some (.string X)) :
    Calls Tryz.prog 10 #[.slice (some ⟨pl, 0, none⟩) 1 1, .agg #[.bool false, .slice none 0 0, .slice none 0 0, .slice none 0 0, .string ⟨#[]⟩]] w fun e w' => e = .returned (.tuple #[.pointer (some ⟨w.heap.size + 3, 0, none⟩), .bool true]) ∧ DecNew pl w w' := by
  have hx : (X.size : Int) ≤ 90000 := by omega
  have hpl : pl < w.heap.size := lt_of_cell hp
  go_enter Tryz.func10, Tryz.ntmps10
  go_wp2
  refine wp_loop_rounds 2 ?_; rw [rounds_succ]
  go_wp2
  rw [rounds_succ]
  go_wp2_with (go_at_call 18; refine Hid.out ?_)
  refine Lib.hid ?_
  obtain ⟨W, hW⟩ : ∃ W, W = (w.alloc (.cells #[.bool false, .slice none 0 0, .slice none 0 0, .slice none 0 0, .string ⟨#[]⟩] 32)).alloc (.cells #[.slice (some ⟨pl, 0, none⟩) 1 1, .int .i64 0, .int .i64 0] 67) := ⟨_, rfl⟩
  have hs : W.heap.size = w.heap.size + 2 := by rw [hW]; simp
  have h0 : W.heap[w.heap.size]? = some (.cells #[.bool false, .slice none 0 0, .slice none 0 0, .slice none 0 0, .string ⟨#[]⟩] 32 (0, 0)) := by rw [hW]; exact (Below.heap_alloc _ _ _ (by simp)).trans (heap_alloc_new w _)
  have h1 : W.heap[w.heap.size + 1]? = some (.cells #[.slice (some ⟨pl, 0, none⟩) 1 1, .int .i64 0, .int .i64 0] 67 (0, 0)) := by
    have := heap_alloc_new (w.alloc (.cells #[.bool false, .slice none 0 0, .slice none 0 0, .slice none 0 0, .string ⟨#[]⟩] 32)) (.cells #[.slice (some ⟨pl, 0, none⟩) 1 1, .int .i64 0, .int .i64 0] 67)
    rw [World.size_alloc] at this
    rw [hW]; exact this
  have hb : Below w.heap.size w W := by rw [hW]; exact Below.alloc2 w _ _
  rw [← hW]
  clear hW
  have HH := Lib.hid (⟨hs, h0, h1, hb⟩ : _ ∧ _ ∧ _ ∧ _)
  clear h0 h1 hb
  refine newDecoder_ok.mono ?_
  rw [hs]
  rintro e w1 ⟨rfl, hn⟩
  obtain ⟨r1, r2, r3, r4⟩ := HH.out
  have hk : Kp w1 (fun _ => False) w.heap.size (.cells #[.bool false, .slice none 0 0, .slice none 0 0, .slice none 0 0, .string ⟨#[]⟩] 32) := ⟨fun e => e, (hn.below.block _ (by omega)).trans r2⟩
  have hd : Kp w1 (fun _ => False) (w.heap.size + 3) _ := ⟨fun e => e, hn.dec⟩
  have o0 : w1.cell? ⟨w.heap.size, 0, none⟩ = some (.bool false) := hk.cell 0
  have o1 : w1.cell? ⟨w.heap.size, 1, none⟩ = some (.slice none 0 0) := hk.cell 1
  have o2 : w1.cell? ⟨w.heap.size, 2, none⟩ = some (.slice none 0 0) := hk.cell 2
  have o3 : w1.cell? ⟨w.heap.size, 3, none⟩ = some (.slice none 0 0) := hk.cell 3
  have o4 : w1.cell? ⟨w.heap.size, 4, none⟩ = some (.string ⟨#[]⟩) := hk.cell 4
  have d0 : w1.cell? ⟨w.heap.size + 3, 0, none⟩ = some (.bool true) := hd.cell 0
  have d4 : w1.cell? ⟨w.heap.size + 3, 4, none⟩ = some (.string ⟨#[]⟩) := hd.cell 4
  have f := hd.frozen
  have HN := Lib.hid (⟨hn, hd⟩ : _ ∧ _)
  clear hn r1 r2 r3 r4 hk hd
  go_wp2
  refine wp_loop_rounds 1 ?_; rw [rounds_succ]
  go_wp2
  refine wp_loop_rounds 1 ?_; rw [rounds_succ]
  go_wp2
  go_quiet (fail)
  go_wp2
  go_ret2
  obtain ⟨hn, hd⟩ := HN.out
  obtain ⟨r1, r2, r3, r4⟩ := HH.out
  have ho : ∀ k, k ≠ w.heap.size + 3 → ((w1.setCell ⟨w.heap.size + 3, 0, none⟩ (.bool true)).setCell ⟨w.heap.size + 3, 4, none⟩ (.string ⟨#[]⟩)).heap[k]? = w1.heap[k]? := fun k hk => (Below.heap_setCell _ _ _ k hk).trans (Below.heap_setCell _ _ _ k hk)
  have hd2 := (hd.set_ 0 (.bool true)).set_ 4 (.string ⟨#[]⟩)
  have hbl := ((r4.trans (hn.below.mono (by omega))).set1' (b := w.heap.size + 3) (by omega) 0 (.bool true)).set1' (b := w.heap.size + 3) (by omega) 4 (.string ⟨#[]⟩)
  have hsz := hn.size
  refine ⟨rfl, ⟨(ho _ (by omega)).trans ((hn.below.block _ (by omega)).trans r3), (ho _ (by omega)).trans hn.map, hd2.2, (ho _ (by omega)).trans hn.rd, ?_, ⟨hbl.os, hbl.tape, hbl.output, hbl.size, hbl.block⟩, ?_⟩⟩
  · obtain ⟨cs, h1, h2⟩ := hn.row
    exact ⟨cs, h1, (ho _ (by omega)).trans h2⟩
  · show _ ≤ ((w1.setCell ⟨w.heap.size + 3, 0, none⟩ (.bool true)).setCell ⟨w.heap.size + 3, 4, none⟩ (.string ⟨#[]⟩)).heap.size
    rw [World.size_setCell, World.size_setCell]
    omega

end Go.Proofs.YthhmnnojgjpibaaGreatDoor
namespace Go.Proofs.YthhmnnojgjpibaaGreatDoor
open Go Go.RowKit Go.Lib

/-- The blocks of a decoder laid with the heap at n. -/
abbrev idsOf (n pl : Nat) (X : ByteArray) : Ids := ⟨n + 3, n + 4, n + 5, n + 1, pl, X⟩
abbrev cellsOf (n : Nat) : Array Value := (decCs (n + 2)).setIfInBounds 5 (.iface 133 (.pointer (some ⟨n + 4, 0, none⟩)))
abbrev baseOf (n : Nat) : Nat → Option Value := fun i => (cellsOf n)[i]?
/-- Its blocks. -/
abbrev fpOf (n pl : Nat) : Nat → Prop := fun k => k = n + 3 ∨ k = n + 4 ∨ k = n + 5 ∨ k = n + 1 ∨ k = pl
theorem rf_of (n : Nat) : RF ⟨baseOf n, -1, .nilIface, 1, 0, 0⟩ = baseOf n := by
  funext i
  simp only [RF]
  split
  · next h => subst h; rfl
  split
  · next h => subst h; rfl
  split
  · next h => subst h; rfl
  split
  · next h => subst h; rfl
  split
  · next h => subst h; rfl
  rfl
theorem ds_new {pl : Nat} {X : ByteArray} {w w' : World} (h : DecNew pl w w') (hp : w.cell? ⟨pl, 0, none⟩ = some (.string X)) : DSf (idsOf w.heap.size pl X) (fpOf w.heap.size pl) ⟨baseOf w.heap.size, -1, .nilIface, 1, 0, 0⟩ [] X.data.toList true w' := by
  have hpl : pl < w.heap.size := lt_of_cell hp
  have hp' := (h.below.cell (p := ⟨pl, 0, none⟩) hpl).trans hp
  obtain ⟨cs, hc1, hc2⟩ := h.row
  have hsz := h.size
  refine ⟨rfl, (fun e => by cases e), ?_, ⟨none, ⟨0, .inl ⟨rfl, rfl, ?_⟩⟩, (fun g e => by cases e)⟩, ⟨.inl rfl, .inr (.inl rfl), .inr (.inr (.inl rfl)), .inr (.inr (.inr (.inl rfl))), .inr (.inr (.inr (.inr rfl)))⟩, ?_, ?_⟩
  · refine ⟨0, 0, 0, 0, -1, -1, cs, [], ⟨fun i => Lib.frozen_of_heap h.rd i, fun i => Lib.frozen_of_heap h.pc i, ?_, ?_, ?_, ?_, ?_, ?_, ?_, hc2, ?_, ?_, ?_, hp', ?_, ?_, ?_, ?_, ?_, ?_⟩, hc1, rfl, by omega, (fun j b e => by simp at e), ?_, .inl ⟨rfl, Nat.zero_le _⟩⟩
    any_goals exact Lib.cell_of_heap h.rd _
    any_goals exact Lib.cell_of_heap h.pc _
    any_goals (show _ ≠ _; simp only; omega)
    simp
  · rw [rf_of]
    exact ⟨_, h.dec, rfl, rfl, rfl, fun i _ => rfl⟩
  · rintro k (rfl | rfl | rfl | rfl | rfl) <;> omega
  · simp only; omega
theorem bok_new {n pl : Nat} {X : ByteArray} : BOk (idsOf n pl X) (baseOf n) := ⟨rfl, rfl, rfl, rfl, rfl, rfl, rfl, rfl⟩

end Go.Proofs.YthhmnnojgjpibaaGreatDoor
namespace Go.Proofs.YthhmnnojgjpibaaGreatDoor
open Go Go.RowKit Go.Lib

theorem info35 : (Tryz.prog.info? 35).map (fun i => (i.zero, i.size, i.bytes)) = some (some (.agg #[.int .i64 0, .string ⟨#[]⟩, .string ⟨#[]⟩, .slice none 0 0, .string ⟨#[]⟩, .int .i64 0, .int .i64 0, .int .i64 0]), 8, 104) := by kernel_rfl
/-- Between two rounds: the decoder; the tokens' row; the attributes' row; blocks that are none of these. -/
structure TS (I : Ids) (F0 : Nat → Prop) (w0 : World) (B : Nat → Option Value) (rest : List UInt8) (Fp : Nat → Prop) (bs : List UInt8) (fr : Bool) (tv : Value) (n : Nat) (xs : List Value) (av : Value) (ats : List At) (ks : List (Nat × Obj)) (w : World) : Prop where
  ds : DS I Fp B bs rest fr w
  st : Stp F0 Fp w0 w
  row : Row w Fp w0.heap.size 35 8 tv n xs
  arow : Row w Fp w0.heap.size 37 3 av ats.length (ats.flatMap atC)
  kp : ∀ p ∈ ks, Kp w Fp p.1 p.2
  kn : ∀ p ∈ ks, ∀ g, tv.ownBlock = some g → g ≠ p.1
section
variable {I : Ids} {F0 Fp Fp' : Nat → Prop} {w0 w w' : World} {B B' : Nat → Option Value} {rest rest' bs bs' : List UInt8} {fr fr' : Bool} {tv tv' : Value} {n n' : Nat} {xs xs' : List Value} {av : Value} {ats : List At} {ks : List (Nat × Obj)}
theorem TS.below (h : TS I F0 w0 B rest Fp bs fr tv n xs av ats ks w) (hb : Below w.heap.size w w') : TS I F0 w0 B rest Fp bs fr tv n xs av ats ks w' :=
  have hs : Stp Fp Fp w w' := Stp.of (Ext.of_below hb)
  ⟨h.ds.keep hb.size fun k hk => hb.block k (h.ds.lt k hk), h.st.trans hs, h.row.step hs, h.arow.step hs, fun p hp => (h.kp p hp).step hs, h.kn⟩
theorem TS.step (h : TS I F0 w0 B rest Fp bs fr tv n xs av ats ks w) (hd : DS I Fp' B' bs' rest' fr' w') (hs : Stp Fp Fp' w w') : TS I F0 w0 B' rest' Fp' bs' fr' tv n xs av ats ks w' :=
  ⟨hd, h.st.trans hs, h.row.step hs, h.arow.step hs, fun p hp => (h.kp p hp).step hs, h.kn⟩
theorem own_heap {w : World} {base e k n : Nat} {v : Value} {xs : List Value} (h : w.ownsRow base e k v n xs) {g : Nat} (he : v.ownBlock = some g) : ∃ cur, w.heap[g]? = some (.cells cur e (0, 0)) := by
  rcases h.2 with ⟨rfl, _⟩ | ⟨g', cap, cur, rfl, hb, hg, _⟩
  · cases he
  · have : g' = g := by simpa [Value.ownBlock] using he
    subst this
    exact ⟨cur, hg⟩
theorem Row.grown {e : TypeId} {b k n : Nat} {v : Value} {xs : List Value} {row : Option Nat} (h : Row w Fp b e k v n xs) (hg : w.grownBy w' row) (hr : ∀ g, row = some g → ∀ j, v.ownBlock = some j → g ≠ j) : Row w' Fp b e k v n xs :=
  ⟨ownG_kept h.1 fun g he => hg.block g (ownG_lt h.1 he).2 fun e => hr g e.symm g he rfl, h.2⟩
theorem TS.grow (h : TS I F0 w0 B rest Fp bs fr tv n xs av ats ks w) (hg : w.grownBy w' tv.ownBlock) (hown : w'.ownsRow w0.heap.size 35 8 tv' n' xs') {g : Nat} (hv : tv'.ownBlock = some g) (hat : tv.ownBlock = some g ∨ g = w.heap.size) : TS I F0 w0 B rest Fp bs fr tv' n' xs' av ats ks w' := by
  refine ⟨h.ds.grown hg h.row.2, h.st.grown hg (fun g he => (ownG_lt h.row.1 he).1), ⟨hown, ?_⟩, h.arow.grown hg ?_, fun p hp => (h.kp p hp).grown hg (h.kn p hp), ?_⟩
  · intro g' hg'
    obtain rfl : g = g' := by rw [hv] at hg'; exact Option.some.inj hg'
    rcases hat with e | e
    · exact h.row.2 _ e
    · intro hF
      have := h.ds.lt _ hF
      omega
  · intro g hg' j hj
    obtain ⟨cur, hc⟩ := own_heap h.arow.1 hj
    exact h.row.other hc (by decide) g hg'
  · intro p hp g' hg'
    obtain rfl : g = g' := by rw [hv] at hg'; exact Option.some.inj hg'
    rcases hat with e | e
    · exact h.kn p hp _ e
    · have := (h.kp p hp).lt
      omega
/-- The attributes' row is drawn. -/
theorem TS.attrs (h : TS I F0 w0 B rest Fp bs fr tv n xs (.slice none 0 0) [] ks w) (hb : Below w.heap.size w w') (ho : w'.ownsRow w.heap.size 37 3 av ats.length (ats.flatMap atC)) : TS I F0 w0 B rest Fp bs fr tv n xs av ats ks w' := by
  have h' := h.below hb
  have hs := h.st.1.size
  refine ⟨h'.ds, h'.st, h'.row, ⟨?_, ?_⟩, h'.kp, h'.kn⟩
  · refine ⟨ho.1, ho.2.imp id ?_⟩
    rintro ⟨g, cap, cur, h1, h2, h3⟩
    exact ⟨g, cap, cur, h1, Nat.le_trans hs h2, h3⟩
  · intro g hg hF
    have := h.ds.lt _ hF
    have := (ownG_lt ho hg).1
    omega
theorem TS.fewer {ks' : List (Nat × Obj)} (h : TS I F0 w0 B rest Fp bs fr tv n xs av ats ks w) (hk : ∀ p ∈ ks', p ∈ ks) : TS I F0 w0 B rest Fp bs fr tv n xs av ats ks' w :=
  ⟨h.ds, h.st, h.row, h.arow, fun p hp => h.kp p (hk p hp), fun p hp => h.kn p (hk p hp)⟩
end

/-- The frame of Tokens at the head of a round. -/
def TokA (I : Ids) (fb : Nat) (tv : Value) (left : Int) (cnt : Nat) (a : Act) : Prop := a.defers = [] ∧ a.tmps.size = 62 ∧ a.tmps.getD 1 undef = .bool false ∧ a.tmps.getD 6 undef = tv ∧ a.tmps.getD 7 undef = .pointer (some ⟨fb, 0, none⟩) ∧ a.tmps.getD 9 undef = .pointer (some ⟨I.dd, 0, none⟩) ∧ a.tmps.getD 11 undef = .int .i64 left ∧ a.tmps.getD 24 undef = .int .i64 (cnt : Int)
set_option maxRecDepth 1000000 in
theorem frameTok {I : Ids} {fb cnt : Nat} {left : Int} {tv : Value} {a : Act} (h : TokA I fb tv left cnt a) : ∃ u : Nat → Value, a = ⟨List.toArray (u 0 :: .bool false :: u 2 :: u 3 :: u 4 :: u 5 :: tv :: .pointer (some ⟨fb, 0, none⟩) :: u 8 :: .pointer (some ⟨I.dd, 0, none⟩) :: u 10 :: .int .i64 left :: u 12 :: u 13 :: u 14 :: u 15 :: u 16 :: u 17 :: u 18 :: u 19 :: u 20 :: u 21 :: u 22 :: u 23 :: .int .i64 (cnt : Int) :: u 25 :: u 26 :: u 27 :: u 28 :: u 29 :: u 30 :: u 31 :: u 32 :: u 33 :: u 34 :: u 35 :: u 36 :: u 37 :: u 38 :: u 39 :: u 40 :: u 41 :: u 42 :: u 43 :: u 44 :: u 45 :: u 46 :: u 47 :: u 48 :: u 49 :: u 50 :: u 51 :: u 52 :: u 53 :: u 54 :: u 55 :: u 56 :: u 57 :: u 58 :: u 59 :: u 60 :: u 61 :: []), []⟩ := by
  obtain ⟨t, d⟩ := a
  obtain ⟨hd, hs, h1, h6, h7, h9, h11, h24⟩ := h
  simp only at hd hs h1 h6 h7 h9 h11 h24
  subst hd
  have e : t = ((List.range 62).map (fun i => t.getD i undef)).toArray := by
    apply Array.ext
    · simp [hs]
    · intro i hi1 hi2
      simp [Array.getD, hi1]
  obtain ⟨u, hu⟩ : ∃ u : Nat → Value, u = fun i => t.getD i undef := ⟨_, rfl⟩
  have e2 : (List.range 62).map u = u 0 :: u 1 :: u 2 :: u 3 :: u 4 :: u 5 :: u 6 :: u 7 :: u 8 :: u 9 :: u 10 :: u 11 :: u 12 :: u 13 :: u 14 :: u 15 :: u 16 :: u 17 :: u 18 :: u 19 :: u 20 :: u 21 :: u 22 :: u 23 :: u 24 :: u 25 :: u 26 :: u 27 :: u 28 :: u 29 :: u 30 :: u 31 :: u 32 :: u 33 :: u 34 :: u 35 :: u 36 :: u 37 :: u 38 :: u 39 :: u 40 :: u 41 :: u 42 :: u 43 :: u 44 :: u 45 :: u 46 :: u 47 :: u 48 :: u 49 :: u 50 :: u 51 :: u 52 :: u 53 :: u 54 :: u 55 :: u 56 :: u 57 :: u 58 :: u 59 :: u 60 :: u 61 :: [] := by kernel_rfl
  have g1 : u 1 = _ := (congrFun hu 1).trans h1
  have g6 : u 6 = _ := (congrFun hu 6).trans h6
  have g7 : u 7 = _ := (congrFun hu 7).trans h7
  have g9 : u 9 = _ := (congrFun hu 9).trans h9
  have g11 : u 11 = _ := (congrFun hu 11).trans h11
  have g24 : u 24 = _ := (congrFun hu 24).trans h24
  rw [g1, g6, g7, g9, g11, g24] at e2
  rw [← hu, e2] at e
  exact ⟨u, by rw [e]⟩

end Go.Proofs.YthhmnnojgjpibaaGreatDoor
