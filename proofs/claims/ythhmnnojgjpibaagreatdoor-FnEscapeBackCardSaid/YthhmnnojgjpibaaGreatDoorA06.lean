/- bytes.Buffer: WriteByte, WriteString, Write, String. The decoder's buffer: what its methods do to the decoder. -/
import Derived.Test.YthhmnnojgjpibaaGreatDoorA05
import Derived.Test.YthhmnnojgjpibaaGreatDoorA04

set_option linter.unusedVariables false
set_option linter.unusedSimpArgs false

namespace Go.Proofs.YthhmnnojgjpibaaGreatDoor
open Go Go.RowKit

attribute [local go_sem ↓] Go.wp_at_zero Go.wp_at_succ
section
variable {T : TypeId} {R : Nat → Option Value} {b q : Nat} {G : Option Nat} {bs : List UInt8} {w : World}
theorem grow_any (h : BF T R b q G bs w) (n : Nat) (hn : 1 ≤ n) (hnr : LibA.NoRoom b q n w) (he : bs = [] → G = none ∨ n ≤ 64) (hlim : bs.length + n ≤ 1000000) :
    Calls Tryz.prog 66 #[.pointer (some ⟨b, q, none⟩), .int .i64 n] w fun e w' => e = .returned (.int .i64 bs.length) ∧ RoomP T R b q G bs n w w' := by
  obtain ⟨ao, l, cap0, hc, hlt⟩ := hnr
  obtain ⟨lr, ⟨h1, h2, h3⟩ | ⟨g, cap, cur, h1, h2, h3, h4, h5, h6, h7, h8, h9⟩⟩ := h
  · subst h1 h2
    by_cases h64 : n ≤ 64
    · exact grow_small h3 hn h64
    · exact grow_big h3 (by omega) (by simpa using hlim)
  · have c0 := h3.c0
    rw [c0] at hc
    cases hc
    by_cases hb : bs = []
    · rcases he hb with e | e
      · rw [h1] at e; cases e
      · subst hb; simp only [List.length_nil] at hlt; omega
    · subst h1
      exact grow_row h3 h4 h5 h7 h8 h9 hb hlt hlim
/-- One byte is laid where there is room. -/
theorem room_poke {w' : World} {g cap : Nat} {lr : Int} {cur : Array Value} (c : UInt8) (h3 : LibA.Three w' b q T R (.slice (some ⟨g, 0, none⟩) (bs.length + 1) cap) (.int .i64 0) (.int .i8 lr)) (hgb : g ≠ b) (hg : w'.heap[g]? = some (.cells cur 5 (0, 0))) (hnc : bs.length + 1 ≤ cap) (hcm : cap ≤ maxLen) (h64 : 64 ≤ cap) (hcs : cur.size = cap)
    (htk : cur.toList.take bs.length = bs.map u8) : BF T R b q (some g) (bs ++ [c]) (w'.setCell ⟨g, bs.length, none⟩ (u8 c)) := by
  have hl : bs.length < cur.toList.length := by have : cur.toList.length = cur.size := Array.length_toList; omega
  refine ⟨lr, .inr ⟨g, cap, cur.setIfInBounds bs.length (u8 c), rfl, hgb, ?_, ?_, by simpa using hnc, hcm, h64, by simpa using hcs, ?_⟩⟩
  · rw [List.length_append, List.length_singleton]
    exact h3.of_heap (Below.heap_setCell _ _ _ _ hgb.symm)
  · exact Lib.heap_setCell_same (i := bs.length) hg _
  · rw [List.length_append, List.length_singleton, Array.toList_setIfInBounds, List.take_add_one, List.take_set_of_le (Nat.le_refl _), List.getElem?_set_self hl, htk]
    simp
end
/-- The old row reads as before. -/
def Olds (G : Option Nat) (bs : List UInt8) (w : World) : Prop := ∀ g, G = some g → ∀ (j : Nat) (y : UInt8), bs[j]? = some y → w.cell? ⟨g, j, none⟩ = some (.int .u8 (y.toNat : Int))
theorem row_cell {cur : Array Value} {bs : List UInt8} (h : cur.toList.take bs.length = bs.map u8) {j : Nat} {y : UInt8} (hj : bs[j]? = some y) : cur[j]? = some (.int .u8 (y.toNat : Int)) := by
  have hl := (List.getElem?_eq_some_iff.1 hj).1
  have e1 : (bs.map u8)[j]? = some (u8 y) := by rw [List.getElem?_map, hj]; rfl
  rw [← h, List.getElem?_take_of_lt hl, Array.getElem?_toList] at e1
  exact e1
set_option maxHeartbeats 4000000 in
set_option maxRecDepth 100000 in
theorem wb_ok {T : TypeId} {R : Nat → Option Value} {b q : Nat} {G : Option Nat} {bs : List UInt8} {w : World} (h : BF T R b q G bs w) (c : UInt8) (hlim : bs.length + 1 ≤ 1000000) :
    Calls Tryz.prog 44 #[.pointer (some ⟨b, q, none⟩), .int .u8 (c.toNat : Int)] w fun e w' => e = .returned .nilIface ∧ (∃ G', G' ≠ none ∧ BF T R b q G' (bs ++ [c]) w' ∧ BStep b G G' w w') ∧ Olds G bs w' := by
  have f2 := h.f (q + 2)
  obtain ⟨lr0, c2⟩ := h.c2
  obtain ⟨w0, hw0⟩ : ∃ w0, w0 = w.setCell ⟨b, q + 2, none⟩ (.int .i8 0) := ⟨_, rfl⟩
  have h1 : BF T R b q G bs w0 := by rw [hw0]; exact h.last 0
  have hE0 : Ext (fun k => k = b) w w0 := by rw [hw0]; exact ext1 b _ _ _
  have HW := Lib.hid hw0
  have HE := Lib.hid hE0
  have H1 := Lib.hid h1
  clear hw0 hE0 h1 h
  have fin : ∀ w1, RoomP T R b q G bs 1 w0 w1 → ∃ (g cap : Nat) (x : Value), w1.cell? ⟨b, q, none⟩ = some (.slice (some ⟨g, 0, none⟩) (bs.length + 1) cap) ∧ w1.cell? ⟨g, bs.length, none⟩ = some x ∧ w1.frozen? ⟨g, bs.length, none⟩ = false ∧ bs.length + 1 ≤ cap ∧ cap ≤ maxLen ∧
      (∃ G', G' ≠ none ∧ BF T R b q G' (bs ++ [c]) (w1.setCell ⟨g, bs.length, none⟩ (.int .u8 (c.toNat : Int))) ∧ BStep b G G' w (w1.setCell ⟨g, bs.length, none⟩ (.int .u8 (c.toNat : Int)))) ∧ Olds G bs (w1.setCell ⟨g, bs.length, none⟩ (.int .u8 (c.toNat : Int))) := by
    rintro w1 ⟨lr, g, cap, cur, hgb, h3, hg, hnc, hcm, h64, hcs, htk, hE, hG⟩
    have hlt : bs.length < cur.size := by omega
    refine ⟨g, cap, cur[bs.length], h3.c0, by rw [Lib.cell_of_heap hg, Array.getElem?_eq_getElem hlt], Lib.frozen_of_heap hg _, hnc, hcm, ⟨some g, by simp, room_poke c h3 hgb hg hnc hcm h64 hcs htk, ?_, ?_⟩, ?_⟩
    · have hx := HE.out.trans hE
      refine ⟨hx.os, hx.tape, hx.output, by simpa [World.setCell] using hx.size, fun k hk hn => ?_⟩
      have hkg : k ≠ g := by
        rintro rfl
        rcases hG with hG | hG
        · exact hn (.inr hG)
        · have := HE.out.size; omega
      exact (Below.heap_setCell _ _ _ _ hkg).trans (hx.block k hk fun e => hn (.inl e))
    · rintro g' e
      obtain rfl := Option.some.inj e
      have hg1 : g < w1.heap.size := Lib.lt_of_heap hg
      rcases hG with hG | hG
      · exact .inl hG
      · exact .inr ⟨by have := HE.out.size; omega, by simpa [World.setCell] using hg1⟩
    · intro g0 hg0 j y hj
      have hjl := (List.getElem?_eq_some_iff.1 hj).1
      by_cases e : g0 = g
      · subst e
        rw [World.cell?_setCell_other _ _ _ _ (fun e2 => by injection e2 with _ e3; omega), Lib.cell_of_heap hg]
        exact row_cell htk hj
      · rw [World.cell?_setCell_far _ _ _ _ (fun e2 => e e2.symm)]
        obtain ⟨lr1, ⟨h1, _⟩ | ⟨g1, cap1, cur1, h1, h2, _, h4, _, _, _, _, h9⟩⟩ := H1.out
        · rw [h1] at hg0; cases hg0
        · obtain rfl : g1 = g0 := Option.some.inj (h1.symm.trans hg0)
          rw [World.cell?_of_block (hE.block g1 (Lib.lt_of_heap h4) h2), Lib.cell_of_heap h4]
          exact row_cell h9 hj
  have FIN := Lib.hid fin
  clear fin
  go_enter Tryz.func44, Tryz.ntmps44
  go_upto_region 2 with fail
  rw [← HW.out]
  go_wp2_with (go_at_call 65; refine (tg_any H1.out 1 (Nat.le_refl _)).mono ?_)
  rintro e W1 (⟨rfl, hroom⟩ | ⟨rfl, hw, hnr⟩)
  · obtain ⟨g, cap, x, d0, dg, fg, hnc, hcm, hfin⟩ := FIN.out W1 hroom
    have HF := Lib.hid hfin
    clear hfin hroom
    unfold maxLen at hcm
    go_wp2
    go_ret
    exact ⟨rfl, HF.out⟩
  · subst hw
    go_wp2_with (go_at_call 66; refine (grow_any H1.out 1 (Nat.le_refl _) hnr (fun _ => .inr (by omega)) hlim).mono ?_)
    rintro e W1 ⟨rfl, hroom⟩
    obtain ⟨g, cap, x, d0, dg, fg, hnc, hcm, hfin⟩ := FIN.out W1 hroom
    have HF := Lib.hid hfin
    clear hfin hroom
    unfold maxLen at hcm
    go_wp2
    go_ret
    exact ⟨rfl, HF.out⟩

section
variable {T : TypeId} {R : Nat → Option Value} {b q : Nat} {G : Option Nat} {bs : List UInt8} {w : World}
/-- Bytes are laid where there is room. -/
theorem room_write {w' : World} {g cap : Nat} {lr : Int} {cur : Array Value} (xs : List UInt8) (h3 : LibA.Three w' b q T R (.slice (some ⟨g, 0, none⟩) (bs.length + xs.length) cap) (.int .i64 0) (.int .i8 lr)) (hgb : g ≠ b) (hg : w'.heap[g]? = some (.cells cur 5 (0, 0))) (hnc : bs.length + xs.length ≤ cap) (hcm : cap ≤ maxLen) (h64 : 64 ≤ cap) (hcs : cur.size = cap)
    (htk : cur.toList.take bs.length = bs.map u8) : BF T R b q (some g) (bs ++ xs) (w'.setRow g (cur.toList.take bs.length ++ xs.map u8 ++ cur.toList.drop (bs.length + xs.length)).toArray) := by
  have hcl : cur.toList.length = cur.size := Array.length_toList
  refine ⟨lr, .inr ⟨g, cap, _, rfl, hgb, ?_, setRow_heap _ _ _ _ _ _ hg, by simpa using hnc, hcm, h64, ?_, ?_⟩⟩
  · rw [List.length_append]
    exact h3.of_heap (setRow_other _ _ _ _ hgb.symm)
  · simp only [List.size_toArray, List.length_append, List.length_take, List.length_map, List.length_drop]
    omega
  · rw [List.length_append, htk, ← List.map_append, List.toList_toArray]
    exact List.take_left' (by simp)
/-- What a writer of n bytes finds behind the room, and leaves. -/
theorem room_fin {w0 w1 : World} (xs : List UInt8) (hE0 : Ext (fun k => k = b) w w0) (h : RoomP T R b q G bs xs.length w0 w1) :
    ∃ (g cap : Nat) (cur : Array Value), w1.cell? ⟨b, q, none⟩ = some (.slice (some ⟨g, 0, none⟩) (bs.length + xs.length) cap) ∧ w1.heap[g]? = some (.cells cur 5 (0, 0)) ∧ bs.length + xs.length ≤ cur.size ∧ bs.length + xs.length ≤ cap ∧ cap ≤ maxLen ∧ Ext (fun k => k = b) w w1 ∧
      ∃ G', G' ≠ none ∧ BF T R b q G' (bs ++ xs) (w1.setRow g (cur.toList.take bs.length ++ xs.map u8 ++ cur.toList.drop (bs.length + xs.length)).toArray) ∧ BStep b G G' w (w1.setRow g (cur.toList.take bs.length ++ xs.map u8 ++ cur.toList.drop (bs.length + xs.length)).toArray) := by
  obtain ⟨lr, g, cap, cur, hgb, h3, hg, hnc, hcm, h64, hcs, htk, hE, hG⟩ := h
  have hx := hE0.trans hE
  refine ⟨g, cap, cur, h3.c0, hg, by omega, hnc, hcm, hx, some g, by simp, room_write xs h3 hgb hg hnc hcm h64 hcs htk, ?_, ?_⟩
  · refine ⟨hx.os, hx.tape, hx.output, by simpa using hx.size, fun k hk hn => ?_⟩
    have hkg : k ≠ g := by
      rintro rfl
      rcases hG with hG | hG
      · exact hn (.inr hG)
      · have := hE0.size; omega
    exact (setRow_other _ _ _ _ hkg).trans (hx.block k hk fun e => hn (.inl e))
  · rintro g' e
    obtain rfl := Option.some.inj e
    have hg1 : g < w1.heap.size := Lib.lt_of_heap hg
    rcases hG with hG | hG
    · exact .inl hG
    · exact .inr ⟨by have := hE0.size; omega, by simpa using hg1⟩
end
theorem sliced_tail (g l n cap : Nat) (hn : 1 ≤ n) (hc : l + n ≤ cap) (W : World) : (Instr.slice 39 (.slice (some ⟨g, 0, none⟩) (l + n) cap) (some (.int .i64 (l : Int))) none none).run Tryz.prog W = .ok (.slice (some ⟨g, l, none⟩) n (cap - l)) W := by
  have e1 : Tryz.prog.underlying 39 = some (.slice (Tryz.prog.elem 39)) := by kernel_rfl
  have e2 : ∀ w, (sizeOf (Tryz.prog.elem 39)).run Tryz.prog w = .ok 1 w := fun w => by kernel_rfl
  rw [run_slice_l (P := Tryz.prog) W 39 _ (l + n) cap e1 .i64 (l : Int) (by omega) (by omega), e2]
  simp only [Result.andThen, sliced, Int.toNat_natCast]
  rw [if_neg (by omega)]
  have e : (⟨g, 0, none⟩ : Addr).add (l * 1) = ⟨g, l, none⟩ := by unfold Addr.add; split <;> simp_all
  simp only [Option.map_some, e, Nat.add_sub_cancel_left]
theorem sliced_none (A : Option Addr) (l cap : Nat) : ∃ A' : Option Addr, ∀ W : World, (Instr.slice 39 (.slice A l cap) (some (.int .i64 (l : Int))) none none).run Tryz.prog W = .ok (.slice A' 0 (cap - l)) W := by
  have e1 : Tryz.prog.underlying 39 = some (.slice (Tryz.prog.elem 39)) := by kernel_rfl
  have e2 : ∀ w, (sizeOf (Tryz.prog.elem 39)).run Tryz.prog w = .ok 1 w := fun w => by kernel_rfl
  refine ⟨if cap = l then A else A.map (·.add (l * 1)), fun W => ?_⟩
  rw [run_slice_l (P := Tryz.prog) W 39 _ l cap e1 .i64 (l : Int) (by omega) (by omega), e2]
  simp only [Result.andThen, sliced, Int.toNat_natCast, Nat.sub_self]
set_option maxHeartbeats 4000000 in
set_option maxRecDepth 100000 in
/-- Write of bytes that lie in another block. -/
theorem write_ok {T : TypeId} {R : Nat → Option Value} {b q : Nat} {G : Option Nat} {bs : List UInt8} {w : World} (h : BF T R b q G bs w) (xs : List UInt8) (sb so c : Nat) (hp : 1 ≤ xs.length) (hsb : sb ≠ b) (hsrc : ∀ j x, xs[j]? = some x → w.cell? ⟨sb, so + j, none⟩ = some (.int .u8 (x.toNat : Int)))
    (he : bs = [] → G = none ∨ xs.length ≤ 64) (hlim : bs.length + xs.length ≤ 1000000) :
    Calls Tryz.prog 151 #[.pointer (some ⟨b, q, none⟩), .slice (some ⟨sb, so, none⟩) xs.length c] w fun e w' => e = .returned (.tuple #[.int .i64 xs.length, .nilIface]) ∧ ∃ G', G' ≠ none ∧ BF T R b q G' (bs ++ xs) w' ∧ BStep b G G' w w' := by
  have f2 := h.f (q + 2)
  obtain ⟨lr0, c2⟩ := h.c2
  obtain ⟨w0, hw0⟩ : ∃ w0, w0 = w.setCell ⟨b, q + 2, none⟩ (.int .i8 0) := ⟨_, rfl⟩
  have h1 : BF T R b q G bs w0 := by rw [hw0]; exact h.last 0
  have hE0 : Ext (fun k => k = b) w w0 := by rw [hw0]; exact ext1 b _ _ _
  have fin : ∀ w1, RoomP T R b q G bs xs.length w0 w1 → ∃ (g cap : Nat) (w2 : World), w1.cell? ⟨b, q, none⟩ = some (.slice (some ⟨g, 0, none⟩) (bs.length + xs.length) cap) ∧ bs.length + xs.length ≤ cap ∧ cap ≤ maxLen ∧
      (Builtin.copy_ #[39, 39] 3 #[.slice (some ⟨g, bs.length, none⟩) xs.length (cap - bs.length), .slice (some ⟨sb, so, none⟩) xs.length c]).run Tryz.prog w1 = .ok (goInt xs.length) w2 ∧ ∃ G', G' ≠ none ∧ BF T R b q G' (bs ++ xs) w2 ∧ BStep b G G' w w2 := by
    intro w1 hroom
    obtain ⟨g, cap, cur, d0, hg, hfit, hnc, hcm, hx, hfin⟩ := room_fin xs hE0 hroom
    have hsrc1 : ∀ j v, (xs.map u8)[j]? = some v → w1.cell? ((⟨sb, so, none⟩ : Addr).add j) = some v := by
      intro j v hj
      rw [List.getElem?_map] at hj
      cases hxj : xs[j]? with
      | none => rw [hxj] at hj; cases hj
      | some x =>
        rw [hxj] at hj
        cases hj
        have e : (⟨sb, so, none⟩ : Addr).add j = ⟨sb, so + j, none⟩ := by unfold Addr.add; split <;> simp_all
        have hc := hsrc j x hxj
        rw [e]
        exact (World.cell?_of_block (hx.block sb (lt_of_cell hc) hsb)).trans hc
    have hcp := run_copy_row (P := Tryz.prog) w1 39 39 3 5 g bs.length xs.length (cap - bs.length) ⟨sb, so, none⟩ xs.length c cur 5 (xs.map u8) Tryz.underlying39 size1_5 hg (by rw [List.length_map]; exact (Nat.min_self _).symm) hsrc1 (by rw [List.length_map]; exact hfit) (by
      intro v hv; obtain ⟨x, _, rfl⟩ := List.mem_map.1 hv; rfl)
    rw [List.length_map] at hcp
    exact ⟨g, cap, _, d0, hnc, hcm, hcp, hfin⟩
  have hlen : ¬ xs.length = 0 := by omega
  have HW := Lib.hid hw0
  have H1 := Lib.hid h1
  have FIN := Lib.hid fin
  clear fin hw0 hE0 h1 h hsrc
  go_enter Tryz.func151, Tryz.ntmps151
  go_upto_region 2 with fail
  rw [← HW.out]
  go_wp2_with (go_at_call 65; refine (tg_any H1.out xs.length hp).mono ?_)
  rintro e W1 (⟨rfl, hroom⟩ | ⟨rfl, hw, hnr⟩)
  · obtain ⟨g, cap, w2, d0, hnc, hcm, hcp, hfin⟩ := FIN.out W1 hroom
    have HF := Lib.hid hfin
    have hsl := sliced_tail g bs.length xs.length cap hp hnc
    clear hfin hroom
    unfold maxLen at hcm
    go_wp2
    go_ret2
    exact ⟨rfl, HF.out⟩
  · subst hw
    go_wp2_with (go_at_call 66; refine (grow_any H1.out xs.length hp hnr he hlim).mono ?_)
    rintro e W1 ⟨rfl, hroom⟩
    obtain ⟨g, cap, w2, d0, hnc, hcm, hcp, hfin⟩ := FIN.out W1 hroom
    have HF := Lib.hid hfin
    have hsl := sliced_tail g bs.length xs.length cap hp hnc
    clear hfin hroom
    unfold maxLen at hcm
    go_wp2
    go_ret2
    exact ⟨rfl, HF.out⟩
set_option maxHeartbeats 4000000 in
set_option maxRecDepth 100000 in
/-- WriteString. -/
theorem ws_ok {T : TypeId} {R : Nat → Option Value} {b q : Nat} {G : Option Nat} {bs : List UInt8} {w : World} (h : BF T R b q G bs w) (s : ByteArray) (hp : 1 ≤ s.size) (he : bs = [] → G = none ∨ s.size ≤ 64) (hlim : bs.length + s.size ≤ 1000000) :
    Calls Tryz.prog 61 #[.pointer (some ⟨b, q, none⟩), .string s] w fun e w' => e = .returned (.tuple #[.int .i64 s.size, .nilIface]) ∧ ∃ G', G' ≠ none ∧ BF T R b q G' (bs ++ s.data.toList) w' ∧ BStep b G G' w w' := by
  have hsz : s.size = s.data.toList.length := Lib.size_eq s
  have f2 := h.f (q + 2)
  obtain ⟨lr0, c2⟩ := h.c2
  obtain ⟨w0, hw0⟩ : ∃ w0, w0 = w.setCell ⟨b, q + 2, none⟩ (.int .i8 0) := ⟨_, rfl⟩
  have h1 : BF T R b q G bs w0 := by rw [hw0]; exact h.last 0
  have hE0 : Ext (fun k => k = b) w w0 := by rw [hw0]; exact ext1 b _ _ _
  have fin : ∀ w1, RoomP T R b q G bs s.size w0 w1 → ∃ (g cap : Nat) (w2 : World), w1.cell? ⟨b, q, none⟩ = some (.slice (some ⟨g, 0, none⟩) (bs.length + s.size) cap) ∧ bs.length + s.size ≤ cap ∧ cap ≤ maxLen ∧
      (Builtin.copy_ #[39, 9] 3 #[.slice (some ⟨g, bs.length, none⟩) s.size (cap - bs.length), .string s]).run Tryz.prog w1 = .ok (goInt s.size) w2 ∧ ∃ G', G' ≠ none ∧ BF T R b q G' (bs ++ s.data.toList) w2 ∧ BStep b G G' w w2 := by
    intro w1 hroom
    obtain ⟨g, cap, cur, d0, hg, hfit, hnc, hcm, hx, hfin⟩ := room_fin s.data.toList hE0 (hsz ▸ hroom)
    have hcp := run_copy_text (P := Tryz.prog) w1 39 9 3 5 g bs.length s.size (cap - bs.length) s.size s cur 5 Tryz.underlying39 size1_5 hg (Nat.min_self _).symm (by rw [hsz]; exact hfit)
    have htk : s.data.toList.take s.size = s.data.toList := List.take_of_length_le (by rw [← Lib.size_eq]; exact Nat.le_refl _)
    rw [htk] at hcp
    rw [← hsz] at hfin
    rw [← hsz] at d0 hnc
    exact ⟨g, cap, _, d0, hnc, hcm, hcp, hfin⟩
  have hlen : ¬ s.size = 0 := by omega
  have HW := Lib.hid hw0
  have H1 := Lib.hid h1
  have FIN := Lib.hid fin
  have HSZ := Lib.hid hsz
  clear fin hw0 hE0 h1 h hsz
  go_enter Tryz.func61, Tryz.ntmps61
  go_upto_region 2 with fail
  rw [← HW.out]
  go_wp2_with (go_at_call 65; refine (tg_any H1.out s.size hp).mono ?_)
  rintro e W1 (⟨rfl, hroom⟩ | ⟨rfl, hw, hnr⟩)
  · obtain ⟨g, cap, w2, d0, hnc, hcm, hcp, hfin⟩ := FIN.out W1 hroom
    have HF := Lib.hid hfin
    have hsl := sliced_tail g bs.length s.size cap hp hnc
    clear hfin hroom
    unfold maxLen at hcm
    go_wp2
    go_ret2
    exact ⟨rfl, HF.out⟩
  · subst hw
    go_wp2_with (go_at_call 66; refine (grow_any H1.out s.size hp hnr he hlim).mono ?_)
    rintro e W1 ⟨rfl, hroom⟩
    obtain ⟨g, cap, w2, d0, hnc, hcm, hcp, hfin⟩ := FIN.out W1 hroom
    have HF := Lib.hid hfin
    have hsl := sliced_tail g bs.length s.size cap hp hnc
    clear hfin hroom
    unfold maxLen at hcm
    go_wp2
    go_ret2
    exact ⟨rfl, HF.out⟩

set_option maxHeartbeats 4000000 in
set_option maxRecDepth 100000 in
/-- Write of nothing. -/
theorem write_zero {T : TypeId} {R : Nat → Option Value} {b q : Nat} {G : Option Nat} {bs : List UInt8} {w : World} (h : BF T R b q G bs w) (A : Option Addr) (c : Nat) :
    Calls Tryz.prog 151 #[.pointer (some ⟨b, q, none⟩), .slice A 0 c] w fun e w' => e = .returned (.tuple #[.int .i64 0, .nilIface]) ∧ BF T R b q G bs w' ∧ Ext (fun k => k = b) w w' := by
  have f2 := h.f (q + 2)
  obtain ⟨lr0, c2⟩ := h.c2
  obtain ⟨w0, hw0⟩ : ∃ w0, w0 = w.setCell ⟨b, q + 2, none⟩ (.int .i8 0) := ⟨_, rfl⟩
  have h1 : BF T R b q G bs w0 := by rw [hw0]; exact h.last 0
  have hE0 : Ext (fun k => k = b) w w0 := by rw [hw0]; exact ext1 b _ _ _
  have HW := Lib.hid hw0
  have H1 := Lib.hid h1
  have HE := Lib.hid hE0
  clear hw0 hE0 h1 h
  go_enter Tryz.func151, Tryz.ntmps151
  go_upto_region 2 with fail
  rw [← HW.out]
  go_wp2_with (go_at_call 65; refine (tg_zero H1.out).mono ?_)
  rintro e W1 ⟨rfl, hB, hE1⟩
  obtain ⟨A1, cap, c0, c1, hlc, hcm, -⟩ := hB.cells
  obtain ⟨A2, hsl⟩ := sliced_none A1 bs.length cap
  have hcp := run_copy_none (P := Tryz.prog) W1 39 39 3 5 A2 A 0 (cap - bs.length) 0 c Tryz.underlying39 size1_5 rfl
  have HB := Lib.hid hB
  have HE1 := Lib.hid hE1
  clear hB hE1
  unfold maxLen at hcm
  go_wp2
  go_ret2
  exact ⟨rfl, HB.out, HE.out.trans HE1.out⟩
set_option maxHeartbeats 4000000 in
set_option maxRecDepth 100000 in
theorem string_ok {T : TypeId} {R : Nat → Option Value} {b q g : Nat} {bs : List UInt8} {w : World} (h : BF T R b q (some g) bs w) :
    Calls Tryz.prog 9 #[.pointer (some ⟨b, q, none⟩)] w fun e w' => e = .returned (.string ⟨bs.toArray⟩) ∧ ∃ n, w' = w.drewN n := by
  obtain ⟨lr, ⟨h1, _⟩ | ⟨g', cap, cur, h1, h2, h3, h4, h5, h6, h7, h8, h9⟩⟩ := h
  · cases h1
  · have c0 := h3.c0
    have c1 := h3.c1
    have hcv := run_convert_bytes_back (P := Tryz.prog) w.drew 39 9 5 ⟨g', 0, none⟩ cap bs Tryz.underlying39 Tryz.underlying5 Tryz.underlying9 (Lib.bytes_of_row (w := w.drew) h4 h9)
    have hc : ¬ cap = 0 := by omega
    unfold maxLen at h6
    go_enter Tryz.func9, Tryz.ntmps9
    go_wp2
    go_region
    all_goals (go_wp2; go_ret; exact ⟨rfl, 1, rfl⟩)

end Go.Proofs.YthhmnnojgjpibaaGreatDoor
namespace Go.Proofs.YthhmnnojgjpibaaGreatDoor
open Go Go.RowKit

theorem Ext.trans' {S S' : Nat → Prop} {w w' w'' : World} (h : Ext S w w') (k : Ext S' w' w'') (hs : ∀ i, S' i → S i ∨ w.heap.size ≤ i) : Ext S w w'' :=
  ⟨k.os.trans h.os, k.tape.trans h.tape, k.output.trans h.output, Nat.le_trans h.size k.size, fun i hi hn => (k.block i (Nat.lt_of_lt_of_le hi h.size) fun e => (hs i e).elim hn (fun e => by omega)).trans (h.block i hi hn)⟩
/-- Only the decoder's blocks have turned; what is its own is new or was its own. -/
def Stp (Fp Fp' : Nat → Prop) (w w' : World) : Prop := Ext Fp w w' ∧ ∀ k, Fp' k → Fp k ∨ w.heap.size ≤ k
section
variable {Fp Fp' Fp'' : Nat → Prop} {w w' w'' : World}
theorem Stp.refl (Fp : Nat → Prop) (w : World) : Stp Fp Fp w w := ⟨Ext.refl _ _, fun _ h => .inl h⟩
theorem Stp.of (h : Ext Fp w w') : Stp Fp Fp w w' := ⟨h, fun _ h => .inl h⟩
theorem Stp.trans (h : Stp Fp Fp' w w') (k : Stp Fp' Fp'' w' w'') : Stp Fp Fp'' w w'' :=
  ⟨h.1.trans' k.1 h.2, fun i hi => (k.2 i hi).elim (fun e => h.2 i e) (fun e => .inr (Nat.le_trans h.1.size e))⟩
/-- New blocks of the caller's own. -/
theorem Stp.alloc (h : Stp Fp Fp' w w') (o : Obj) : Stp Fp Fp' w (w'.alloc o) := ⟨h.1.trans (Ext.alloc _ _), h.2⟩
theorem Stp.drewN (h : Stp Fp Fp' w w') (n : Nat) : Stp Fp Fp' w (w'.drewN n) := ⟨h.1.drewN n, h.2⟩
end
section
variable {I : Ids} {Fp : Nat → Prop} {f : DF} {bs bs' rest : List UInt8} {fr : Bool} {w w' : World} {G G' : Option Nat}
/-- The buffer has turned. -/
theorem DSf.rebuf (h : DSf I Fp f bs rest fr w) (hG : ∀ g, G = some g → Fp g ∧ g ≠ I.dd ∧ g ≠ I.br ∧ g ≠ I.ba ∧ g ≠ I.pc ∧ g ≠ I.pl) (hB : BF 78 (RF f) I.dd 7 G' bs' w') (hS : BStep I.dd G G' w w') :
    ∃ Fp', DSf I Fp' f bs' rest fr w' ∧ Stp Fp Fp' w w' := by
  obtain ⟨k1, k2, k3, k4, k5⟩ := h.fp
  obtain ⟨d1, d2, d3, d4⟩ := h.dne
  have e : ∀ k, Fp k → k ≠ I.dd → (∀ g, G = some g → k ≠ g) → w'.heap[k]? = w.heap[k]? := fun k hk h1 h2 => hS.1.block k (h.lt k hk) (fun e => e.elim h1 (fun e => h2 k e.symm rfl))
  have hE : Ext Fp w w' := hS.1.mono fun k _ e => e.elim (fun e => e ▸ k1) (fun e => (hG k e.symm).1)
  refine ⟨fun k => Fp k ∨ (w.heap.size ≤ k ∧ k < w'.heap.size), ⟨h.nb, h.ne, ?_, ⟨G', hB, ?_⟩, ⟨.inl k1, .inl k2, .inl k3, .inl k4, .inl k5⟩, ?_, h.dne⟩, hE, fun k hk => hk.imp id And.left⟩
  · exact h.rd.keep (e _ k2 d1.symm fun g hg => (hG g hg).2.2.1.symm) (e _ k3 d2.symm fun g hg => (hG g hg).2.2.2.1.symm) (e _ k4 d3.symm fun g hg => (hG g hg).2.2.2.2.1.symm) (e _ k5 d4.symm fun g hg => (hG g hg).2.2.2.2.2.symm)
  · intro g hg
    rcases hS.2 g hg with h1 | ⟨h1, h2⟩
    · obtain ⟨h2, h3⟩ := hG g h1.symm
      exact ⟨.inl h2, h3⟩
    · have := h.lt _ k1; have := h.lt _ k2; have := h.lt _ k3; have := h.lt _ k4; have := h.lt _ k5
      exact ⟨.inr ⟨h1, h2⟩, by omega, by omega, by omega, by omega, by omega⟩
  · rintro k (hk | hk)
    · exact Nat.lt_of_lt_of_le (h.lt k hk) hE.size
    · exact hk.2
end
section
variable {I : Ids} {Fp : Nat → Prop} {B : Nat → Option Value} {bs rest : List UInt8} {fr : Bool} {w : World}
theorem DS.drewN (h : DS I Fp B bs rest fr w) (n : Nat) : DS I Fp B bs rest fr (w.drewN n) := by
  obtain ⟨nb, line, lst, off, h⟩ := h
  exact ⟨nb, line, lst, off, h.drewN n⟩
theorem DS.alloc (h : DS I Fp B bs rest fr w) (o : Obj) : DS I Fp B bs rest fr (w.alloc o) := by
  obtain ⟨nb, line, lst, off, h⟩ := h
  exact ⟨nb, line, lst, off, h.keep (by simp) fun k hk => Below.heap_alloc w o k (h.lt k hk)⟩
/-- What is none of its blocks may turn. -/
theorem DS.keep {w' : World} (h : DS I Fp B bs rest fr w) (hs : w.heap.size ≤ w'.heap.size) (e : ∀ k, Fp k → w'.heap[k]? = w.heap[k]?) : DS I Fp B bs rest fr w' := by
  obtain ⟨nb, line, lst, off, h⟩ := h
  exact ⟨nb, line, lst, off, h.keep hs e⟩
theorem DS.lt (h : DS I Fp B bs rest fr w) : ∀ k, Fp k → k < w.heap.size := by
  obtain ⟨nb, line, lst, off, h⟩ := h
  exact h.lt
theorem DS.fpd (h : DS I Fp B bs rest fr w) : Fp I.dd := by
  obtain ⟨nb, line, lst, off, h⟩ := h
  exact h.fp.1
theorem DS.cell (h : DS I Fp B bs rest fr w) (i : Nat) (hi : (i < 7 ∨ 10 ≤ i) ∧ i ≠ 18 ∧ i < 20) : w.cell? ⟨I.dd, i, none⟩ = B i := by
  obtain ⟨nb, line, lst, off, h⟩ := h
  rw [h.cell i hi.1]
  simp only [RF]
  rw [if_neg hi.2.1, if_neg (by omega), if_neg (by omega), if_neg (by omega), if_neg (by omega)]
theorem DS.err (h : DS I Fp B bs rest fr w) : w.cell? ⟨I.dd, 20, none⟩ = some .nilIface := by
  obtain ⟨nb, line, lst, off, h⟩ := h
  exact h.cell 20 (by omega)
theorem DS.frozen (h : DS I Fp B bs rest fr w) (i : Nat) : w.frozen? ⟨I.dd, i, none⟩ = false := by
  obtain ⟨nb, line, lst, off, h⟩ := h
  exact h.frozen i
theorem reset_ds (h : DS I Fp B bs rest fr w) :
    Calls Tryz.prog 43 #[.pointer (some ⟨I.dd, 7, none⟩)] w fun e w' => e = .returned (.tuple #[]) ∧ ∃ Fp', DS I Fp' B [] rest fr w' ∧ Stp Fp Fp' w w' := by
  obtain ⟨nb, line, lst, off, h⟩ := h
  obtain ⟨G, hB, hG⟩ := h.buf
  refine (reset_ok hB).mono ?_
  rintro e w' ⟨rfl, hB', hE⟩
  obtain ⟨Fp', h', hS⟩ := h.rebuf hG hB' ⟨hE.mono fun k _ e => .inl e, fun g hg => .inl hg.symm⟩
  exact ⟨rfl, Fp', ⟨nb, line, lst, off, h'⟩, hS⟩
theorem trunc_ds (h : DS I Fp B bs rest fr w) (n : Nat) (hn : n ≤ bs.length) :
    Calls Tryz.prog 49 #[.pointer (some ⟨I.dd, 7, none⟩), .int .i64 n] w fun e w' => e = .returned (.tuple #[]) ∧ ∃ Fp', DS I Fp' B (bs.take n) rest fr w' ∧ Stp Fp Fp' w w' := by
  obtain ⟨nb, line, lst, off, h⟩ := h
  obtain ⟨G, hB, hG⟩ := h.buf
  refine (trunc_ok hB n hn).mono ?_
  rintro e w' ⟨rfl, hB', hE⟩
  obtain ⟨Fp', h', hS⟩ := h.rebuf hG hB' ⟨hE.mono fun k _ e => .inl e, fun g hg => .inl hg.symm⟩
  exact ⟨rfl, Fp', ⟨nb, line, lst, off, h'⟩, hS⟩
theorem wb_ds (h : DS I Fp B bs rest fr w) (c : UInt8) (hlim : bs.length + 1 ≤ 1000000) :
    Calls Tryz.prog 44 #[.pointer (some ⟨I.dd, 7, none⟩), .int .u8 (c.toNat : Int)] w fun e w' => e = .returned .nilIface ∧ ∃ Fp', DS I Fp' B (bs ++ [c]) rest fr w' ∧ Stp Fp Fp' w w' := by
  obtain ⟨nb, line, lst, off, h⟩ := h
  obtain ⟨G, hB, hG⟩ := h.buf
  refine (wb_ok hB c hlim).mono ?_
  rintro e w' ⟨rfl, ⟨G', _, hB', hE⟩, _⟩
  obtain ⟨Fp', h', hS⟩ := h.rebuf hG hB' hE
  exact ⟨rfl, Fp', ⟨nb, line, lst, off, h'⟩, hS⟩
theorem ws_ds (h : DS I Fp B bs rest fr w) (s : ByteArray) (hp : 1 ≤ s.size) (h64 : s.size ≤ 64) (hlim : bs.length + s.size ≤ 1000000) :
    Calls Tryz.prog 61 #[.pointer (some ⟨I.dd, 7, none⟩), .string s] w fun e w' => e = .returned (.tuple #[.int .i64 s.size, .nilIface]) ∧ ∃ Fp', DS I Fp' B (bs ++ s.data.toList) rest fr w' ∧ Stp Fp Fp' w w' := by
  obtain ⟨nb, line, lst, off, h⟩ := h
  obtain ⟨G, hB, hG⟩ := h.buf
  refine (ws_ok hB s hp (fun _ => .inr h64) hlim).mono ?_
  rintro e w' ⟨rfl, G', _, hB', hE⟩
  obtain ⟨Fp', h', hS⟩ := h.rebuf hG hB' hE
  exact ⟨rfl, Fp', ⟨nb, line, lst, off, h'⟩, hS⟩
theorem len_ds (h : DS I Fp B bs rest fr w) :
    Calls Tryz.prog 50 #[.pointer (some ⟨I.dd, 7, none⟩)] w fun e w' => e = .returned (.int .i64 bs.length) ∧ ∃ n, w' = w.drewN n := by
  obtain ⟨nb, line, lst, off, h⟩ := h
  obtain ⟨G, hB, hG⟩ := h.buf
  obtain ⟨A, cap, c0, c1, hlc, hcm, _⟩ := hB.cells
  exact len_cells I.dd 7 A bs.length cap w c0 c1 (by omega)
/-- A slice that reads as the bytes l. -/
structure Rds (l : List UInt8) (g c : Nat) (w : World) : Prop where
  cells : ∀ j x, l[j]? = some x → w.cell? ⟨g, j, none⟩ = some (.int .u8 (x.toNat : Int))
  le : l.length ≤ c
  lim : c ≤ maxLen
  c64 : 64 ≤ c
theorem bytes_ds (h : DS I Fp B bs rest fr w) (hne : bs ≠ []) :
    Calls Tryz.prog 45 #[.pointer (some ⟨I.dd, 7, none⟩)] w fun e w' => ∃ g cap, e = .returned (.slice (some ⟨g, 0, none⟩) bs.length cap) ∧ Rds bs g cap w' ∧ w'.cell? ⟨I.dd, 7, none⟩ = some (.slice (some ⟨g, 0, none⟩) bs.length cap) ∧ ∃ n, w' = w.drewN n := by
  obtain ⟨nb, line, lst, off, h⟩ := h
  obtain ⟨G, hB, hG⟩ := h.buf
  obtain ⟨lr, ⟨h1, h2, h3⟩ | ⟨g, cap, cur, h1, h2, h3, h4, h5, h6, h7, h8, h9⟩⟩ := hB
  · exact absurd h2 hne
  · refine (bytes_cells I.dd 7 g bs.length cap w h3.c0 h3.c1 h7).mono ?_
    rintro e w' ⟨rfl, n, rfl⟩
    refine ⟨g, cap, rfl, ⟨fun j x hj => ?_, h5, h6, h7⟩, h3.c0, n, rfl⟩
    show w.cell? ⟨g, j, none⟩ = _
    rw [Lib.cell_of_heap h4]
    exact row_cell h9 hj
/-- WriteByte, while a slice of the buffer is held. -/
theorem wb_old (h : DS I Fp B bs rest fr w) (c : UInt8) (hlim : bs.length + 1 ≤ 1000000) {g n cap : Nat} (hg : w.cell? ⟨I.dd, 7, none⟩ = some (.slice (some ⟨g, 0, none⟩) n cap)) :
    Calls Tryz.prog 44 #[.pointer (some ⟨I.dd, 7, none⟩), .int .u8 (c.toNat : Int)] w fun e w' => e = .returned .nilIface ∧ (∃ Fp', DS I Fp' B (bs ++ [c]) rest fr w' ∧ Stp Fp Fp' w w') ∧ ∀ (j : Nat) (y : UInt8), bs[j]? = some y → w'.cell? ⟨g, j, none⟩ = some (.int .u8 (y.toNat : Int)) := by
  obtain ⟨nb, line, lst, off, h⟩ := h
  obtain ⟨G, hB, hG⟩ := h.buf
  obtain ⟨A, cap', c0, _, _, _, hA⟩ := hB.cells
  have hGg : G = some g := by
    rw [hg] at c0
    have e := Option.some.inj c0
    cases G with
    | none => rw [hA] at e; cases e
    | some g' => rw [hA] at e; cases e; rfl
  refine (wb_ok hB c hlim).mono ?_
  rintro e w' ⟨rfl, ⟨G', _, hB', hE⟩, ho⟩
  obtain ⟨Fp', h', hS⟩ := h.rebuf hG hB' hE
  exact ⟨rfl, ⟨Fp', ⟨nb, line, lst, off, h'⟩, hS⟩, ho g hGg⟩
end

end Go.Proofs.YthhmnnojgjpibaaGreatDoor
