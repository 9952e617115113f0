/- bufio.Reader: ReadByte, over the reader as a list of bytes to come. ReadByte over the reader as a list of bytes that are still to come. The decoder: getc, mustgetc, ungetc. bytes.Buffer, its three cells at an offset of a block: which blocks turn, and where its row lies. -/
import Derived.Test.YthhmnnojgjpibaaGreatDoorA03
import Derived.Test.YthhmnnojgjpibaaGreatDoorA02
import Derived.Test.YthhmnnojgjpibaaGreatDoorShelf

set_option linter.unusedVariables false
set_option linter.unusedSimpArgs false

namespace Go.Proofs.YthhmnnojgjpibaaGreatDoor
open Go Go.RowKit

attribute [local go_sem ↓] Go.wp_at_zero Go.wp_at_succ
set_option maxHeartbeats 4000000 in
set_option maxRecDepth 100000 in
/-- There is a byte in the row. -/
theorem rb_have {br ba pc pl : Nat} {X : ByteArray} {r q : Nat} {i o x5 x6 : Int} {err : Value} {cur : Array Value} {w : World} (h : RdAt 5 65 br ba pc pl X r q i o x5 x6 err cur w) (hq : r < q) (hq2 : q ≤ 4096) (b : UInt8) (hb : cur[r]? = some (u8 b)) :
    Calls Tryz.prog 170 #[.pointer (some ⟨br, 0, none⟩)] w fun e w' => e = .returned (.tuple #[.int .u8 (b.toNat : Int), .nilIface]) ∧ RdAt 5 65 br ba pc pl X ((r + 1 : Nat) : Int) q i o b.toNat (-1) err cur w' ∧ Ext (fun k => k = br) w w' := by
  have f6 := h.fz 6
  have c6 := h.c6
  have hne : ((r : Int) == (q : Int)) = false := by simp; omega
  go_enter Tryz.func170, Tryz.ntmps170
  go_upto_block 0 with fail
  obtain ⟨V, hV⟩ : ∃ V, V = w.setCell ⟨br, 6, none⟩ (.int .i64 (-1)) := ⟨_, rfl⟩
  rw [← hV]
  have hR : RdAt 5 65 br ba pc pl X r q i o x5 (-1) err cur V := by rw [hV]; exact h.set6 _
  have hE : Ext (fun k => k = br) w V := by rw [hV]; exact Ext.at_ (S := fun k => k = br) _ rfl _
  clear hV h c6 f6
  have c2 := hR.c2
  have c3 := hR.c3
  have HQ := Lib.hid hq
  clear hq
  go_wp2
  refine wp_loop_rounds 1 ?_; rw [rounds_succ]
  go_wp2
  go_quiet (fail)
  obtain ⟨U, hU⟩ : ∃ U, U = V.drewN nq := ⟨_, rfl⟩
  rw [← hU]
  have hR1 : RdAt 5 65 br ba pc pl X r q i o x5 (-1) err cur U := by rw [hU]; exact hR.drewN _
  have hE1 : Ext (fun k => k = br) w U := by rw [hU]; exact hE.drewN _
  clear hU nq hR hE c2 c3
  have d0 := hR1.c0
  have d2 := hR1.c2
  have r0 : (0 : Int) ≤ (r : Int) := by omega
  have r1 : (r : Int) < 4096 := by have := HQ.out; omega
  have db : U.cell? ⟨ba, r, none⟩ = some (.int .u8 (b.toNat : Int)) := by rw [Lib.cell_of_heap hR1.row]; exact hb
  have b8 : (b.toNat : Int) < 256 := by have := b.toNat_lt; omega
  go_wp2
  go_quiet (fail)
  obtain ⟨Y, hY⟩ : ∃ Y, Y = U.drewN nq := ⟨_, rfl⟩
  rw [← hY]
  have hR2 : RdAt 5 65 br ba pc pl X r q i o x5 (-1) err cur Y := by rw [hY]; exact hR1.drewN _
  have hE2 : Ext (fun k => k = br) w Y := by rw [hY]; exact hE1.drewN _
  clear hY nq hR1 hE1 d0 d2 db
  have e2 := hR2.c2
  have e5 := hR2.c5
  have g2 := hR2.fz 2
  have g5 := hR2.fz 5
  have HR := Lib.hid hR2
  have HE := Lib.hid hE2
  clear hR2 hE2
  go_wp2
  go_ret2
  exact ⟨rfl, (HR.out.set2 _).set5 _, (HE.out.trans (Ext.at_ (S := fun k => k = br) _ rfl _)).trans (Ext.at_ (S := fun k => k = br) _ rfl _)⟩

set_option maxHeartbeats 4000000 in
set_option maxRecDepth 100000 in
/-- The row is empty: it is filled. -/
theorem rb_fill {br ba pc pl : Nat} {X : ByteArray} {r o : Nat} {x5 x6 : Int} {cur : Array Value} {w : World} (h : RdAt 5 65 br ba pc pl X r r 0 o x5 x6 .nilIface cur w) (hr : r ≤ 4096) (ho : o < X.size) (hX : X.size ≤ 100000) (hcur : cur.size = 4096) (n : Nat) (hn : n = min (X.size - o) 4096)
    (b : UInt8) (hb : X.data.toList[o]? = some b) :
    Calls Tryz.prog 170 #[.pointer (some ⟨br, 0, none⟩)] w fun e w' => e = .returned (.tuple #[.int .u8 (b.toNat : Int), .nilIface]) ∧
      RdAt 5 65 br ba pc pl X 1 n 0 ((o + n : Nat) : Int) b.toNat (-1) .nilIface (Lib.byteCells ((X.data.toList.drop o).take n) ++ cur.toList.drop n).toArray w' ∧ Ext (fun k => k = br ∨ k = ba ∨ k = pc) w w' := by
  have f6 := h.fz 6
  have c6 := h.c6
  have hne : ((r : Int) == (r : Int)) = true := by simp
  go_enter Tryz.func170, Tryz.ntmps170
  go_upto_block 0 with fail
  obtain ⟨V, hV⟩ : ∃ V, V = w.setCell ⟨br, 6, none⟩ (.int .i64 (-1)) := ⟨_, rfl⟩
  rw [← hV]
  have hR : RdAt 5 65 br ba pc pl X r r 0 o x5 (-1) .nilIface cur V := by rw [hV]; exact h.set6 _
  have hE : Ext (fun k => k = br ∨ k = ba ∨ k = pc) w V := by rw [hV]; exact Ext.at_ _ (.inl rfl) _
  clear hV h c6 f6
  have c2 := hR.c2
  have c3 := hR.c3
  go_wp2
  refine wp_loop_rounds 2 ?_; rw [rounds_succ]
  go_wp2
  go_quiet (fail)
  obtain ⟨U, hU⟩ : ∃ U, U = V.drewN nq := ⟨_, rfl⟩
  rw [← hU]
  have hR1 : RdAt 5 65 br ba pc pl X r r 0 o x5 (-1) .nilIface cur U := by rw [hU]; exact hR.drewN _
  have hE1 : Ext (fun k => k = br ∨ k = ba ∨ k = pc) w U := by rw [hU]; exact hE.drewN _
  clear hU nq hR hE c2 c3
  have d4 := hR1.c4
  have HE1 := Lib.hid hE1
  have HR1 := Lib.hid hR1
  clear hE1 hR1
  have HN := Lib.hid hn
  clear hn
  have hn1 : 1 ≤ n := by have := HN.out; omega
  have hn2 : n ≤ 4096 := by have := HN.out; omega
  have hnz : ((0 : Int) == (n : Int)) = false := by simp; omega
  have b8 : (b.toNat : Int) < 256 := by have := b.toNat_lt; omega
  have hcell : (Lib.byteCells ((X.data.toList.drop o).take n) ++ cur.toList.drop n).toArray[0]? = some (.int .u8 (b.toNat : Int)) := by
    obtain ⟨m, rfl⟩ : ∃ m, n = m + 1 := ⟨n - 1, by omega⟩
    have : X.data.toList.drop o = b :: X.data.toList.drop (o + 1) := by
      obtain ⟨hl, e⟩ := List.getElem?_eq_some_iff.1 hb
      rw [List.drop_eq_getElem_cons hl, e]
    rw [this]
    simp [Lib.byteCells]
  have HB := Lib.hid hcell
  clear hcell hb
  go_wp2_with (go_at_call 171; refine (fill_text HR1.out hr ho hX hcur n HN.out).mono ?_; rintro e w2 ⟨rfl, hR2, hE2⟩; refine Hid.out ?_)
  refine Lib.hid ?_
  obtain ⟨cur', hcur'⟩ : ∃ c, c = (Lib.byteCells ((X.data.toList.drop o).take n) ++ cur.toList.drop n).toArray := ⟨_, rfl⟩
  rw [← hcur'] at hR2 HB
  have HCU := Lib.hid hcur'
  clear hcur' HN
  have hE3 := HE1.out.trans hE2
  have c2 : w2.cell? ⟨br, 2, none⟩ = some (.int .i64 0) := hR2.c2
  have c3 := hR2.c3
  have HE3 := Lib.hid hE3
  have HR2 := Lib.hid hR2
  clear hE3 hR2 hE2 HE1 HR1 d4
  go_wp2
  rw [rounds_succ]
  go_wp2
  go_quiet (fail)
  obtain ⟨Y, hY⟩ : ∃ Y, Y = w2.drewN nq := ⟨_, rfl⟩
  rw [← hY]
  have hR1 : RdAt 5 65 br ba pc pl X (0 : Nat) n 0 ((o + n : Nat) : Int) x5 (-1) .nilIface cur' Y := by rw [hY]; exact HR2.out.drewN _
  have hE1 : Ext (fun k => k = br ∨ k = ba ∨ k = pc) w Y := by rw [hY]; exact HE3.out.drewN _
  clear hY nq HR2 HE3 c2 c3
  have d0 := hR1.c0
  have d2 : Y.cell? ⟨br, 2, none⟩ = some (.int .i64 0) := hR1.c2
  have db : Y.cell? ⟨ba, 0, none⟩ = some (.int .u8 (b.toNat : Int)) := by rw [Lib.cell_of_heap hR1.row]; exact HB.out
  go_wp2
  go_quiet (fail)
  obtain ⟨Z, hZ⟩ : ∃ Z, Z = Y.drewN nq := ⟨_, rfl⟩
  rw [← hZ]
  have hR2 : RdAt 5 65 br ba pc pl X (0 : Nat) n 0 ((o + n : Nat) : Int) x5 (-1) .nilIface cur' Z := by rw [hZ]; exact hR1.drewN _
  have hE2 : Ext (fun k => k = br ∨ k = ba ∨ k = pc) w Z := by rw [hZ]; exact hE1.drewN _
  clear hZ nq hR1 hE1 d0 d2 db
  have e2 : Z.cell? ⟨br, 2, none⟩ = some (.int .i64 0) := hR2.c2
  have e5 := hR2.c5
  have g2 := hR2.fz 2
  have g5 := hR2.fz 5
  have HR := Lib.hid hR2
  have HE := Lib.hid hE2
  clear hR2 hE2
  go_wp2
  go_ret2
  rw [← HCU.out]
  exact ⟨rfl, (HR.out.set2 _).set5 _, (HE.out.trans (Ext.at_ _ (.inl rfl) _)).trans (Ext.at_ _ (.inl rfl) _)⟩

theorem readErr_any {br ba pc pl : Nat} {X : ByteArray} {r q i o x5 x6 : Int} {err : Value} {cur : Array Value} {w : World} (h : RdAt 5 65 br ba pc pl X r q i o x5 x6 err cur w) :
    Calls Tryz.prog 172 #[.pointer (some ⟨br, 0, none⟩)] w fun e w' => e = .returned err ∧ RdAt 5 65 br ba pc pl X r q i o x5 x6 .nilIface cur w' ∧ Ext (fun k => k = br) w w' := by
  have c4 := h.c4
  have f4 := h.fz 4
  go_enter Tryz.func172, Tryz.ntmps172
  go_wp2
  go_ret
  exact ⟨rfl, h.set4 _, Ext.at_ (S := fun k => k = br) _ rfl _⟩
set_option maxHeartbeats 4000000 in
set_option maxRecDepth 100000 in
/-- Nothing is to come: io.EOF. -/
theorem rb_eof {br ba pc pl : Nat} {X : ByteArray} {r i o : Nat} {x5 x6 : Int} {ev : Value} {cur : Array Value} {w : World} (h : RdAt 5 65 br ba pc pl X r r i o x5 x6 .nilIface cur w) (hr : r ≤ 4096) (hio : (i = 0 ∧ o = X.size) ∨ (i = 1 ∧ o = 0)) (hev : EofV ev w) (hpc : pc ≠ 0) (hbr : br ≠ 0) :
    Calls Tryz.prog 170 #[.pointer (some ⟨br, 0, none⟩)] w fun e w' => e = .returned (.tuple #[.int .u8 0, ev]) ∧ RdAt 5 65 br ba pc pl X 0 0 1 0 x5 (-1) .nilIface cur w' ∧ Ext (fun k => k = br ∨ k = ba ∨ k = pc) w w' := by
  have f6 := h.fz 6
  have c6 := h.c6
  have hne : ((r : Int) == (r : Int)) = true := by simp
  go_enter Tryz.func170, Tryz.ntmps170
  go_upto_block 0 with fail
  obtain ⟨V, hV⟩ : ∃ V, V = w.setCell ⟨br, 6, none⟩ (.int .i64 (-1)) := ⟨_, rfl⟩
  rw [← hV]
  have hR : RdAt 5 65 br ba pc pl X r r i o x5 (-1) .nilIface cur V := by rw [hV]; exact h.set6 _
  have hE : Ext (fun k => k = br ∨ k = ba ∨ k = pc) w V := by rw [hV]; exact Ext.at_ _ (.inl rfl) _
  have hv1 : EofV ev V := hev.keep (by rw [hV]; exact Below.heap_setCell _ _ _ _ hbr.symm)
  have HV1 := Lib.hid hv1
  clear hev hv1
  clear hV h c6 f6
  have c2 := hR.c2
  have c3 := hR.c3
  go_wp2
  refine wp_loop_rounds 2 ?_; rw [rounds_succ]
  go_wp2
  go_quiet (fail)
  obtain ⟨U, hU⟩ : ∃ U, U = V.drewN nq := ⟨_, rfl⟩
  rw [← hU]
  have hR1 : RdAt 5 65 br ba pc pl X r r i o x5 (-1) .nilIface cur U := by rw [hU]; exact hR.drewN _
  have hE1 : Ext (fun k => k = br ∨ k = ba ∨ k = pc) w U := by rw [hU]; exact hE.drewN _
  have hv2 : EofV ev U := HV1.out.keep (by rw [hU]; rfl)
  have HV2 := Lib.hid hv2
  clear hv2 HV1
  clear hU nq hR hE c2 c3
  have d4 := hR1.c4
  have HE1 := Lib.hid hE1
  have HR1 := Lib.hid hR1
  clear hE1 hR1
  obtain ⟨a, rfl⟩ := HV2.out.2
  go_wp2_with (go_at_call 171; refine (fill_eof HR1.out hr hio HV2.out hpc hbr).mono ?_; rintro e w2 ⟨rfl, hR2, hE2⟩; refine Hid.out ?_)
  refine Lib.hid ?_
  have hE3 := HE1.out.trans (hE2.mono (fun k _ h => by rcases h with h | h <;> simp [h]) : Ext (fun k => k = br ∨ k = ba ∨ k = pc) U w2)
  have c2 : w2.cell? ⟨br, 2, none⟩ = some (.int .i64 0) := hR2.c2
  have c3 : w2.cell? ⟨br, 3, none⟩ = some (.int .i64 0) := hR2.c3
  have HE3 := Lib.hid hE3
  have HR2 := Lib.hid hR2
  clear hE3 hR2 hE2 HE1 HR1 d4 HV2
  go_wp2
  rw [rounds_succ]
  go_wp2
  go_quiet (fail)
  obtain ⟨Y, hY⟩ : ∃ Y, Y = w2.drewN nq := ⟨_, rfl⟩
  rw [← hY]
  have hR1 : RdAt 5 65 br ba pc pl X (0 : Nat) (0 : Nat) 1 0 x5 (-1) (.iface 177 (.pointer (some a))) cur Y := by rw [hY]; exact HR2.out.drewN _
  have hE1 : Ext (fun k => k = br ∨ k = ba ∨ k = pc) w Y := by rw [hY]; exact HE3.out.drewN _
  clear hY nq HR2 HE3 c2 c3
  have d4 := hR1.c4
  have HR := Lib.hid hR1
  have HE := Lib.hid hE1
  clear hR1 hE1
  go_wp2_with (go_at_call 172; refine (readErr_any HR.out).mono ?_; rintro e w3 ⟨rfl, hR3, hE3⟩)
  go_ret2
  exact ⟨rfl, hR3, HE.out.trans (hE3.mono fun k _ h => .inl h)⟩

end Go.Proofs.YthhmnnojgjpibaaGreatDoor
namespace Go.Proofs.YthhmnnojgjpibaaGreatDoor
open Go Go.RowKit

/-- The reader's blocks that turn. -/
abbrev rdS (br ba pc : Nat) : Nat → Prop := fun k => k = br ∨ k = ba ∨ k = pc
theorem rdb_some {br ba pc pl : Nat} {X : ByteArray} {b : UInt8} {t : List UInt8} {w : World} (h : RdSt 5 65 br ba pc pl X (b :: t) w) (hX : X.size ≤ 100000) :
    Calls Tryz.prog 170 #[.pointer (some ⟨br, 0, none⟩)] w fun e w' => e = .returned (.tuple #[.int .u8 (b.toNat : Int), .nilIface]) ∧ RdSt 5 65 br ba pc pl X t w' ∧ Ext (rdS br ba pc) w w' := by
  obtain ⟨r, q, i, o, x5, x6, cur, bs, h0, hcur, hq, hq2, hbs, hrest, hio⟩ := h
  cases bs with
  | cons c bs =>
    obtain ⟨rfl, rfl⟩ : b = c ∧ t = bs ++ X.data.toList.drop (if i = 0 then o else X.size) := by simpa using hrest
    rw [List.length_cons] at hq
    refine (rb_have h0 (by omega) hq2 b (by have := hbs 0 b rfl; simpa using this)).mono ?_
    rintro e w' ⟨rfl, h1, h2⟩
    refine ⟨rfl, ⟨r + 1, q, i, o, _, _, cur, bs, h1, hcur, by omega, hq2, fun j x hj => ?_, rfl, hio⟩, h2.mono fun k _ e => .inl e⟩
    have := hbs (j + 1) x (by simpa using hj)
    rwa [show r + 1 + j = r + (j + 1) by omega]
  | nil =>
    have hi : i = 0 ∧ o < X.size := by
      rcases hio with ⟨rfl, ho⟩ | ⟨rfl, rfl⟩
      · refine ⟨rfl, ?_⟩
        rcases Nat.lt_or_ge o X.size with h1 | h1
        · exact h1
        · rw [if_pos rfl, List.nil_append, List.drop_eq_nil_of_le (by rw [← Lib.size_eq]; exact h1)] at hrest
          cases hrest
      · rw [if_neg (by decide), List.nil_append, List.drop_eq_nil_of_le (by rw [← Lib.size_eq]; exact Nat.le_refl _)] at hrest
        cases hrest
    obtain ⟨rfl, ho⟩ := hi
    rw [if_pos rfl, List.nil_append] at hrest
    obtain rfl : r = q := by simpa using hq
    have hb : X.data.toList[o]? = some b := by
      have := congrArg (fun l => l[0]?) hrest
      simpa using this.symm
    refine (rb_fill h0 hq2 ho hX hcur _ rfl b hb).mono ?_
    rintro e w' ⟨rfl, h1, h2⟩
    have hnl : ((X.data.toList.drop o).take (min (X.size - o) 4096)).length = min (X.size - o) 4096 := by
      rw [List.length_take, List.length_drop, ← Lib.size_eq]; omega
    have hcons : (X.data.toList.drop o).take (min (X.size - o) 4096) = b :: t.take (min (X.size - o) 4096 - 1) := by
      rw [← hrest]
      obtain ⟨m, hm⟩ : ∃ m, min (X.size - o) 4096 = m + 1 := ⟨min (X.size - o) 4096 - 1, by omega⟩
      rw [hm]; simp
    refine ⟨rfl, ⟨1, min (X.size - o) 4096, 0, o + min (X.size - o) 4096, _, _, _, t.take (min (X.size - o) 4096 - 1), h1, ?_, ?_, by omega, fun j x hj => ?_, ?_, .inl ⟨rfl, by omega⟩⟩, h2⟩
    · simp [Lib.byteCells, hcur]
      omega
    · have := congrArg List.length hcons
      rw [hnl, List.length_cons] at this
      omega
    · have e1 : ((X.data.toList.drop o).take (min (X.size - o) 4096))[1 + j]? = some x := by rw [hcons, Nat.add_comm]; simpa using hj
      have hlt := (List.getElem?_eq_some_iff.1 e1).1
      rw [List.getElem?_toArray, List.getElem?_append_left (by rw [Lib.byteCells_length]; exact hlt)]
      simp only [Lib.byteCells, List.getElem?_map, e1]
      rfl
    · rw [if_pos rfl]
      have e2 : t = (X.data.toList.drop o).drop 1 := by rw [← hrest]; rfl
      have e3 : t.drop (min (X.size - o) 4096 - 1) = X.data.toList.drop (o + min (X.size - o) 4096) := by
        rw [e2, List.drop_drop, List.drop_drop]; congr 1; omega
      rw [← e3, List.take_append_drop]
theorem rdb_eof {br ba pc pl : Nat} {X : ByteArray} {w : World} {ev : Value} (h : RdSt 5 65 br ba pc pl X [] w) (hev : EofV ev w) (hpc : pc ≠ 0) (hbr : br ≠ 0) :
    Calls Tryz.prog 170 #[.pointer (some ⟨br, 0, none⟩)] w fun e w' => e = .returned (.tuple #[.int .u8 0, ev]) ∧ RdSt 5 65 br ba pc pl X [] w' ∧ Ext (rdS br ba pc) w w' := by
  obtain ⟨r, q, i, o, x5, x6, cur, bs, h0, hcur, hq, hq2, hbs, hrest, hio⟩ := h
  obtain ⟨rfl, hd⟩ : bs = [] ∧ X.data.toList.drop (if i = 0 then o else X.size) = [] := by simpa using hrest.symm
  obtain rfl : r = q := by simpa using hq
  refine (rb_eof h0 hq2 ?_ hev hpc hbr).mono fun e w' ⟨h1, h2, h3⟩ => ⟨h1, ⟨0, 0, 1, 0, _, _, cur, [], h2, hcur, rfl, by omega, fun j b hj => by simp at hj, by simp, .inr ⟨rfl, rfl⟩⟩, h3⟩
  rcases hio with ⟨rfl, ho⟩ | h1
  · rw [if_pos rfl, List.drop_eq_nil_iff, ← Lib.size_eq] at hd
    exact .inl ⟨rfl, by omega⟩
  · exact .inr h1

end Go.Proofs.YthhmnnojgjpibaaGreatDoor
namespace Go.Proofs.YthhmnnojgjpibaaGreatDoor
open Go Go.RowKit

/-- The blocks of a decoder, and its text. -/
structure Ids where
  dd : Nat
  br : Nat
  ba : Nat
  pc : Nat
  pl : Nat
  X : ByteArray
structure IdOk (I : Ids) : Prop where
  d0 : I.dd ≠ 0
  b0 : I.br ≠ 0
  a0 : I.ba ≠ 0
  p0 : I.pc ≠ 0
  X : I.X.size ≤ 100000
/-- The cells that no reading turns. -/
structure BOk (I : Ids) (B : Nat → Option Value) : Prop where
  strict : B 0 = some (.bool true)
  ent : B 2 = some (.map none)
  dsp : B 4 = some (.string ⟨#[]⟩)
  r : B 5 = some (.iface 133 (.pointer (some ⟨I.br, 0, none⟩)))
  t : B 6 = some .nilIface
  saved : B 10 = some (.pointer none)
  nc : B 14 = some (.bool false)
  nt : B 17 = some .nilIface
abbrev DSf (I : Ids) (Fp : Nat → Prop) (f : DF) (bs rest : List UInt8) (fr : Bool) (w : World) : Prop := DecSt 78 5 65 I.dd I.br I.ba I.pc I.pl I.X Fp f bs rest fr w
section
variable {I : Ids} {Fp : Nat → Prop} {f : DF} {bs rest : List UInt8} {fr : Bool} {w w' : World}
theorem DSf.drewN (h : DSf I Fp f bs rest fr w) (n : Nat) : DSf I Fp f bs rest fr (w.drewN n) := h.keep (Nat.le_refl _) fun _ _ => rfl
theorem DSf.drew (h : DSf I Fp f bs rest fr w) : DSf I Fp f bs rest fr w.drew := h.keep (Nat.le_refl _) fun _ _ => rfl
/-- A store into the decoder's struct. -/
theorem DSf.store (h : DSf I Fp f bs rest fr w) (i : Nat) (hi : i < 7 ∨ 10 ≤ i) (v : Value) {f' : DF} {rest' : List UInt8} {fr' : Bool} (hold : ∃ old, RF f i = some old) (hf : (fun j => if j = i then some v else RF f j) = RF f')
    (hnb : f'.nb = if fr' then -1 else ((rest'.headD 0).toNat : Int)) (hne : fr' = false → rest' ≠ []) (hrd : (if fr' then rest' else rest'.tail) = (if fr then rest else rest.tail)) : DSf I Fp f' bs rest' fr' (w.setCell ⟨I.dd, i, none⟩ v) := by
  obtain ⟨old, hold⟩ := hold
  have e : ∀ k, k ≠ I.dd → (w.setCell ⟨I.dd, i, none⟩ v).heap[k]? = w.heap[k]? := fun k hk => Below.heap_setCell _ _ _ _ hk
  obtain ⟨d1, d2, d3, d4⟩ := h.dne
  refine h.upd (fun V lr hT => ?_) (fun k _ h1 _ _ _ => e k h1) (by simp [World.setCell]) ?_ hnb hne
  · have := three_other hT i (by omega) hold v
    rwa [hf] at this
  · rw [hrd]
    exact h.rd.keep (e _ d1.symm) (e _ d2.symm) (e _ d3.symm) (e _ d4.symm)
theorem DSf.set_line (h : DSf I Fp f bs rest fr w) (x : Int) : DSf I Fp { f with line := x } bs rest fr (w.setCell ⟨I.dd, 21, none⟩ (.int .i64 x)) :=
  h.store 21 (by omega) _ ⟨_, rfl⟩ (RF_line x) h.nb h.ne rfl
theorem DSf.set_lst (h : DSf I Fp f bs rest fr w) (x : Int) : DSf I Fp { f with lst := x } bs rest fr (w.setCell ⟨I.dd, 22, none⟩ (.int .i64 x)) :=
  h.store 22 (by omega) _ ⟨_, rfl⟩ (RF_lst x) h.nb h.ne rfl
theorem DSf.set_off (h : DSf I Fp f bs rest fr w) (x : Int) : DSf I Fp { f with off := x } bs rest fr (w.setCell ⟨I.dd, 23, none⟩ (.int .i64 x)) :=
  h.store 23 (by omega) _ ⟨_, rfl⟩ (RF_off x) h.nb h.ne rfl
theorem DSf.set_err (h : DSf I Fp f bs rest fr w) (x : Value) : DSf I Fp { f with err := x } bs rest fr (w.setCell ⟨I.dd, 20, none⟩ x) :=
  h.store 20 (by omega) _ ⟨_, rfl⟩ (RF_err x) h.nb h.ne rfl
theorem DSf.set_taken {b : UInt8} {t : List UInt8} (h : DSf I Fp f bs (b :: t) false w) : DSf I Fp { f with nb := -1 } bs t true (w.setCell ⟨I.dd, 18, none⟩ (.int .i64 (-1))) :=
  h.store 18 (by omega) _ ⟨_, rfl⟩ (RF_nb (-1)) rfl (fun e => by cases e) rfl
theorem DSf.set_given {t : List UInt8} (h : DSf I Fp f bs t true w) (b : UInt8) : DSf I Fp { f with nb := b.toNat } bs (b :: t) false (w.setCell ⟨I.dd, 18, none⟩ (.int .i64 b.toNat)) :=
  h.store 18 (by omega) _ ⟨_, rfl⟩ (RF_nb _) rfl (fun _ => by simp) rfl
theorem DSf.set_base (h : DSf I Fp f bs rest fr w) (i : Nat) (hi : i < 7 ∨ 10 ≤ i) (hn : i ≠ 18 ∧ i ≠ 20 ∧ i ≠ 21 ∧ i ≠ 22 ∧ i ≠ 23) (x : Value) (hold : ∃ old, f.base i = some old) :
    DSf I Fp { f with base := fun j => if j = i then some x else f.base j } bs rest fr (w.setCell ⟨I.dd, i, none⟩ x) := by
  obtain ⟨old, ho⟩ := hold
  exact h.store i hi _ ⟨old, by simp only [RF]; rw [if_neg hn.1, if_neg hn.2.1, if_neg hn.2.2.1, if_neg hn.2.2.2.1, if_neg hn.2.2.2.2]; exact ho⟩ (RF_base i x hn) h.nb h.ne rfl
/-- The reader has gone on by one byte. -/
theorem DSf.read {b : UInt8} {t : List UInt8} (h : DSf I Fp f bs (b :: t) true w) (hr : RdSt 5 65 I.br I.ba I.pc I.pl I.X t w') (hE : Ext (rdS I.br I.ba I.pc) w w') : DSf I Fp f bs t true w' := by
  obtain ⟨d1, d2, d3, d4⟩ := h.dne
  have e : ∀ k, k < w.heap.size → k ≠ I.br → k ≠ I.ba → k ≠ I.pc → w'.heap[k]? = w.heap[k]? := fun k hk h1 h2 h3 => hE.block k hk (fun e => e.elim h1 (fun e => e.elim h2 h3))
  exact h.upd (fun V lr hT => hT.of_heap (e _ hT.lt d1 d2 d3)) (fun k hk _ h1 h2 h3 => e k hk h1 h2 h3) hE.size hr h.nb (fun e => by cases e)
theorem DSf.rdFp (h : DSf I Fp f bs rest fr w) : ∀ k, rdS I.br I.ba I.pc k → Fp k := by
  obtain ⟨_, h1, h2, h3, _⟩ := h.fp
  rintro k (rfl | rfl | rfl) <;> assumption
end
theorem inv133 (a : Addr) (w : World) : (method 376 133 (.pointer (some a)) "ReadByte").run Tryz.prog w = .ok (170, .pointer (some a)) w := by kernel_rfl

attribute [local go_sem ↓] Go.wp_at_zero Go.wp_at_succ
/-- What getc leaves. -/
def GotP (I : Ids) (Fp : Nat → Prop) (B : Nat → Option Value) (bs t : List UInt8) (b : UInt8) (w : World) (e : Ending) (w' : World) : Prop :=
  e = .returned (.tuple #[.int .u8 (b.toNat : Int), .bool true]) ∧ (∃ line lst off : Int, DSf I Fp ⟨B, -1, .nilIface, line, lst, off⟩ bs t true w') ∧ Ext Fp w w'
set_option maxHeartbeats 4000000 in
set_option maxRecDepth 100000 in
theorem getc_ok {I : Ids} {Fp : Nat → Prop} {B : Nat → Option Value} {nb line lst off : Int} {bs t : List UInt8} {b : UInt8} {fr : Bool} {w : World} (hI : IdOk I) (hB : BOk I B) (h : DSf I Fp ⟨B, nb, .nilIface, line, lst, off⟩ bs (b :: t) fr w) :
    Calls Tryz.prog 36 #[.pointer (some ⟨I.dd, 0, none⟩)] w (GotP I Fp B bs t b w) := by
  have c20 : w.cell? ⟨I.dd, 20, none⟩ = some .nilIface := h.cell 20 (by omega)
  have c18 : w.cell? ⟨I.dd, 18, none⟩ = some (.int .i64 nb) := h.cell 18 (by omega)
  have c5 : w.cell? ⟨I.dd, 5, none⟩ = some (.iface 133 (.pointer (some ⟨I.br, 0, none⟩))) := (h.cell 5 (by omega)).trans hB.r
  have b8 : (b.toNat : Int) < 256 := by have := b.toNat_lt; omega
  have b0 : (0 : Int) ≤ (b.toNat : Int) := by omega
  go_enter Tryz.func36, Tryz.ntmps36
  go_upto_if 13 with fail
  go_cut [2] (fun s2 wx => s2 = .int .u8 (b.toNat : Int) ∧ DSf I Fp ⟨B, -1, .nilIface, line, lst, off⟩ bs t true wx ∧ Ext Fp w wx)
  case first =>
    cases fr with
    | false =>
      obtain rfl : nb = (b.toNat : Int) := h.nb
      have f18 := h.frozen 18
      go_wp2
      go_meet
      exact ⟨rfl, h.set_taken, Ext.at_ _ h.fp.1 _⟩
    | true =>
      obtain rfl : nb = -1 := h.nb
      have hm := inv133
      have hrd : RdSt 5 65 I.br I.ba I.pc I.pl I.X (b :: t) w := h.rd
      have H := Lib.hid h
      have HRD := Lib.hid hrd
      have HB := Lib.hid hB
      clear h hrd hB
      go_wp2_with (go_at_call 170; refine (rdb_some HRD.out hI.X).mono ?_; rintro e w2 ⟨rfl, hR2, hE2⟩; have hD2 := H.out.read hR2 hE2; have k20 : w2.cell? ⟨I.dd, 20, none⟩ = some .nilIface := hD2.cell 20 (by omega); have k10 : w2.cell? ⟨I.dd, 10, none⟩ = some (.pointer none) := (hD2.cell 10 (by omega)).trans HB.out.saved; have f20 := hD2.frozen 20; have HD2 := Lib.hid hD2; have HE2 := Lib.hid hE2; clear hD2 hE2 hR2)
      go_meet
      exact ⟨rfl, HD2.out.set_err _, (HE2.out.mono fun k _ hk => H.out.rdFp k hk).trans (Ext.at_ _ H.out.fp.1 _)⟩
  case rest =>
    obtain ⟨rfl, hD, hE⟩ := hcut
    have c21 : wc.cell? ⟨I.dd, 21, none⟩ = some (.int .i64 line) := hD.cell 21 (by omega)
    have c22 : wc.cell? ⟨I.dd, 22, none⟩ = some (.int .i64 lst) := hD.cell 22 (by omega)
    have c23 : wc.cell? ⟨I.dd, 23, none⟩ = some (.int .i64 off) := hD.cell 23 (by omega)
    have f21 := hD.frozen 21
    have f22 := hD.frozen 22
    have f23 := hD.frozen 23
    have HD := Lib.hid hD
    have HE := Lib.hid hE
    clear hD hE h c20 c18 c5
    go_wp2
    · go_ret2
      exact ⟨rfl, ⟨_, _, _, ((HD.out.set_line _).set_lst _).set_off _⟩, ((HE.out.trans (Ext.at_ _ HD.out.fp.1 _)).trans (Ext.at_ _ HD.out.fp.1 _)).trans (Ext.at_ _ HD.out.fp.1 _)⟩
    · go_ret2
      exact ⟨rfl, ⟨_, _, _, HD.out.set_off _⟩, HE.out.trans (Ext.at_ _ HD.out.fp.1 _)⟩

theorem DSf.read0 {I : Ids} {Fp : Nat → Prop} {f : DF} {bs : List UInt8} {w w' : World} (h : DSf I Fp f bs [] true w) (hr : RdSt 5 65 I.br I.ba I.pc I.pl I.X [] w') (hE : Ext (rdS I.br I.ba I.pc) w w') : DSf I Fp f bs [] true w' := by
  obtain ⟨d1, d2, d3, d4⟩ := h.dne
  have e : ∀ k, k < w.heap.size → k ≠ I.br → k ≠ I.ba → k ≠ I.pc → w'.heap[k]? = w.heap[k]? := fun k hk h1 h2 h3 => hE.block k hk (fun e => e.elim h1 (fun e => e.elim h2 h3))
  exact h.upd (fun V lr hT => hT.of_heap (e _ hT.lt d1 d2 d3)) (fun k hk _ h1 h2 h3 => e k hk h1 h2 h3) hE.size hr h.nb (fun e => by cases e)
/-- What getc leaves where the text ends. -/
def EofP (I : Ids) (Fp : Nat → Prop) (B : Nat → Option Value) (bs : List UInt8) (ev : Value) (w : World) (e : Ending) (w' : World) : Prop :=
  e = .returned (.tuple #[.int .u8 0, .bool false]) ∧ (∃ line lst off : Int, DSf I Fp ⟨B, -1, ev, line, lst, off⟩ bs [] true w') ∧ Ext Fp w w'
set_option maxHeartbeats 4000000 in
set_option maxRecDepth 100000 in
theorem getc_eof {I : Ids} {Fp : Nat → Prop} {B : Nat → Option Value} {nb line lst off : Int} {bs : List UInt8} {w : World} {ev : Value} (hI : IdOk I) (hB : BOk I B) (hev : EofV ev w) (h : DSf I Fp ⟨B, nb, .nilIface, line, lst, off⟩ bs [] true w) :
    Calls Tryz.prog 36 #[.pointer (some ⟨I.dd, 0, none⟩)] w (EofP I Fp B bs ev w) := by
  obtain rfl : nb = -1 := h.nb
  have c20 : w.cell? ⟨I.dd, 20, none⟩ = some .nilIface := h.cell 20 (by omega)
  have c18 : w.cell? ⟨I.dd, 18, none⟩ = some (.int .i64 (-1)) := h.cell 18 (by omega)
  have c5 : w.cell? ⟨I.dd, 5, none⟩ = some (.iface 133 (.pointer (some ⟨I.br, 0, none⟩))) := (h.cell 5 (by omega)).trans hB.r
  have hm := inv133
  have hrd : RdSt 5 65 I.br I.ba I.pc I.pl I.X [] w := h.rd
  obtain ⟨a, rfl⟩ := hev.2
  have H := Lib.hid h
  have HRD := Lib.hid hrd
  have HV := Lib.hid hev
  clear h hrd hev hB
  go_enter Tryz.func36, Tryz.ntmps36
  go_wp2_with (go_at_call 170; refine (rdb_eof HRD.out HV.out hI.p0 hI.b0).mono ?_; rintro e w2 ⟨rfl, hR2, hE2⟩; have hD2 := H.out.read0 hR2 hE2; have k20 : w2.cell? ⟨I.dd, 20, none⟩ = some .nilIface := hD2.cell 20 (by omega); have f20 := hD2.frozen 20; have HD2 := Lib.hid hD2; have HE2 := Lib.hid hE2; clear hD2 hE2 hR2)
  go_ret2
  exact ⟨rfl, ⟨_, _, _, HD2.out.set_err _⟩, (HE2.out.mono fun k _ hk => H.out.rdFp k hk).trans (Ext.at_ _ H.out.fp.1 _)⟩
theorem mustgetc_ok {I : Ids} {Fp : Nat → Prop} {B : Nat → Option Value} {nb line lst off : Int} {bs t : List UInt8} {b : UInt8} {fr : Bool} {w : World} (hI : IdOk I) (hB : BOk I B) (h : DSf I Fp ⟨B, nb, .nilIface, line, lst, off⟩ bs (b :: t) fr w) :
    Calls Tryz.prog 39 #[.pointer (some ⟨I.dd, 0, none⟩)] w (GotP I Fp B bs t b w) := by
  go_enter Tryz.func39, Tryz.ntmps39
  go_wp2_with (go_at_call 36; refine (getc_ok hI hB h).mono ?_; rintro e w2 ⟨rfl, hD2, hE2⟩)
  go_ret2
  exact ⟨rfl, hD2, hE2⟩
/-- What ungetc leaves. -/
def UngotP (I : Ids) (Fp : Nat → Prop) (B : Nat → Option Value) (bs t : List UInt8) (b : UInt8) (w : World) (e : Ending) (w' : World) : Prop :=
  e = .returned (.tuple #[]) ∧ (∃ nb line lst off : Int, DSf I Fp ⟨B, nb, .nilIface, line, lst, off⟩ bs (b :: t) false w') ∧ Ext Fp w w'
set_option maxHeartbeats 4000000 in
set_option maxRecDepth 100000 in
theorem ungetc_ok {I : Ids} {Fp : Nat → Prop} {B : Nat → Option Value} {nb line lst off : Int} {bs t : List UInt8} {w : World} (b : UInt8) (h : DSf I Fp ⟨B, nb, .nilIface, line, lst, off⟩ bs t true w) :
    Calls Tryz.prog 37 #[.pointer (some ⟨I.dd, 0, none⟩), .int .u8 (b.toNat : Int)] w (UngotP I Fp B bs t b w) := by
  obtain rfl : nb = -1 := h.nb
  have c18 : w.cell? ⟨I.dd, 18, none⟩ = some (.int .i64 (-1)) := h.cell 18 (by omega)
  have c21 : w.cell? ⟨I.dd, 21, none⟩ = some (.int .i64 line) := h.cell 21 (by omega)
  have c23 : w.cell? ⟨I.dd, 23, none⟩ = some (.int .i64 off) := h.cell 23 (by omega)
  have f18 := h.frozen 18
  have f21 := h.frozen 21
  have f23 := h.frozen 23
  have b8 : (b.toNat : Int) < 256 := by have := b.toNat_lt; omega
  have b0 : (0 : Int) ≤ (b.toNat : Int) := by omega
  have H := Lib.hid h
  clear h
  go_enter Tryz.func37, Tryz.ntmps37
  go_wp2
  · refine bodyPost_ret (v := .tuple #[]) (by simp [results, Tryz.results37, go_sem]) rfl ⟨rfl, ⟨_, _, _, _, ((H.out.set_line _).set_given b).set_off _⟩, ((Ext.at_ _ H.out.fp.1 _).trans (Ext.at_ _ H.out.fp.1 _)).trans (Ext.at_ _ H.out.fp.1 _)⟩
  · refine bodyPost_ret (v := .tuple #[]) (by simp [results, Tryz.results37, go_sem]) rfl ⟨rfl, ⟨_, _, _, _, (H.out.set_given b).set_off _⟩, (Ext.at_ _ H.out.fp.1 _).trans (Ext.at_ _ H.out.fp.1 _)⟩
/-- The decoder, wherever its lines and offsets stand. -/
def DS (I : Ids) (Fp : Nat → Prop) (B : Nat → Option Value) (bs rest : List UInt8) (fr : Bool) (w : World) : Prop := ∃ nb line lst off : Int, DSf I Fp ⟨B, nb, .nilIface, line, lst, off⟩ bs rest fr w
section
variable {I : Ids} {Fp : Nat → Prop} {B : Nat → Option Value} {bs t : List UInt8} {b : UInt8} {fr : Bool} {w : World}
theorem getc_ds (hI : IdOk I) (hB : BOk I B) (h : DS I Fp B bs (b :: t) fr w) :
    Calls Tryz.prog 36 #[.pointer (some ⟨I.dd, 0, none⟩)] w fun e w' => e = .returned (.tuple #[.int .u8 (b.toNat : Int), .bool true]) ∧ DS I Fp B bs t true w' ∧ Ext Fp w w' := by
  obtain ⟨nb, line, lst, off, h⟩ := h
  exact (getc_ok hI hB h).mono fun e w' ⟨h1, ⟨l, s, o, h2⟩, h3⟩ => ⟨h1, ⟨_, l, s, o, h2⟩, h3⟩
theorem mustgetc_ds (hI : IdOk I) (hB : BOk I B) (h : DS I Fp B bs (b :: t) fr w) :
    Calls Tryz.prog 39 #[.pointer (some ⟨I.dd, 0, none⟩)] w fun e w' => e = .returned (.tuple #[.int .u8 (b.toNat : Int), .bool true]) ∧ DS I Fp B bs t true w' ∧ Ext Fp w w' := by
  obtain ⟨nb, line, lst, off, h⟩ := h
  exact (mustgetc_ok hI hB h).mono fun e w' ⟨h1, ⟨l, s, o, h2⟩, h3⟩ => ⟨h1, ⟨_, l, s, o, h2⟩, h3⟩
theorem ungetc_ds (b : UInt8) (h : DS I Fp B bs t true w) :
    Calls Tryz.prog 37 #[.pointer (some ⟨I.dd, 0, none⟩), .int .u8 (b.toNat : Int)] w fun e w' => e = .returned (.tuple #[]) ∧ DS I Fp B bs (b :: t) false w' ∧ Ext Fp w w' := by
  obtain ⟨nb, line, lst, off, h⟩ := h
  exact (ungetc_ok b h).mono fun e w' ⟨h1, h2, h3⟩ => ⟨h1, h2, h3⟩
end

end Go.Proofs.YthhmnnojgjpibaaGreatDoor
namespace Go.Proofs.YthhmnnojgjpibaaGreatDoor
open Go Go.RowKit

/-- Only the buffer's block and its row have turned; a new row is a new block. -/
def BStep (b : Nat) (G G' : Option Nat) (w w' : World) : Prop := Ext (fun k => k = b ∨ some k = G) w w' ∧ ∀ g, G' = some g → some g = G ∨ (w.heap.size ≤ g ∧ g < w'.heap.size)
/-- There is room for n more. -/
def RoomP (T : TypeId) (R : Nat → Option Value) (b q : Nat) (G : Option Nat) (bs : List UInt8) (n : Nat) (w w' : World) : Prop :=
  ∃ lr g cap cur, g ≠ b ∧ LibA.Three w' b q T R (.slice (some ⟨g, 0, none⟩) (bs.length + n) cap) (.int .i64 0) (.int .i8 lr) ∧ w'.heap[g]? = some (.cells cur 5 (0, 0)) ∧
      bs.length + n ≤ cap ∧ cap ≤ maxLen ∧ 64 ≤ cap ∧ cur.size = cap ∧ cur.toList.take bs.length = bs.map u8 ∧ Ext (fun k => k = b) w w' ∧ (some g = G ∨ w.heap.size ≤ g)
section
variable {T : TypeId} {R : Nat → Option Value} {b q : Nat} {G : Option Nat} {bs : List UInt8} {w w' : World}
theorem BF.drewN (h : BF T R b q G bs w) (n : Nat) : BF T R b q G bs (w.drewN n) := h.keep rfl fun _ _ => rfl
theorem BF.lt (h : BF T R b q G bs w) : b < w.heap.size := by
  obtain ⟨lr, ⟨_, _, h3⟩ | ⟨g, cap, cur, _, _, h3, _⟩⟩ := h <;> exact h3.lt
theorem BF.f (h : BF T R b q G bs w) (i : Nat) : w.frozen? ⟨b, i, none⟩ = false := by
  obtain ⟨lr, ⟨_, _, h3⟩ | ⟨g, cap, cur, _, _, h3, _⟩⟩ := h <;> exact h3.f i
/-- Its first two cells. -/
theorem BF.cells (h : BF T R b q G bs w) : ∃ A cap, w.cell? ⟨b, q, none⟩ = some (.slice A bs.length cap) ∧ w.cell? ⟨b, q + 1, none⟩ = some (.int .i64 0) ∧ bs.length ≤ cap ∧ cap ≤ maxLen ∧ A = G.map (⟨·, 0, none⟩) := by
  obtain ⟨lr, ⟨h1, h2, h3⟩ | ⟨g, cap, cur, h1, h2, h3, h4, h5, h6, _⟩⟩ := h
  · subst h1 h2
    exact ⟨_, _, h3.c0, h3.c1, Nat.le_refl _, by unfold maxLen; omega, rfl⟩
  · subst h1
    exact ⟨_, _, h3.c0, h3.c1, h5, h6, rfl⟩
theorem BF.last (h : BF T R b q G bs w) (x : Int) : BF T R b q G bs (w.setCell ⟨b, q + 2, none⟩ (.int .i8 x)) := by
  obtain ⟨lr, ⟨h1, h2, h3⟩ | ⟨g, cap, cur, h1, h2, h3, h4, h5⟩⟩ := h
  · exact ⟨x, .inl ⟨h1, h2, h3.set2 _⟩⟩
  · exact ⟨x, .inr ⟨g, cap, cur, h1, h2, h3.set2 _, (Below.heap_setCell _ _ _ _ h2).trans h4, h5⟩⟩
theorem BF.c2 (h : BF T R b q G bs w) : ∃ lr, w.cell? ⟨b, q + 2, none⟩ = some (.int .i8 lr) := by
  obtain ⟨lr, ⟨_, _, h3⟩ | ⟨g, cap, cur, _, _, h3, _⟩⟩ := h <;> exact ⟨lr, h3.c2⟩
end
attribute [local go_sem ↓] Go.wp_at_zero Go.wp_at_succ
theorem len_cells (b q : Nat) (A : Option Addr) (l cap : Nat) (w : World) (c0 : w.cell? ⟨b, q, none⟩ = some (.slice A l cap)) (c1 : w.cell? ⟨b, q + 1, none⟩ = some (.int .i64 0)) (hl : l ≤ maxLen) :
    Calls Tryz.prog 50 #[.pointer (some ⟨b, q, none⟩)] w fun e w' => e = .returned (.int .i64 l) ∧ ∃ n, w' = w.drewN n := by
  unfold maxLen at hl
  go_enter Tryz.func50, Tryz.ntmps50
  go_wp2
  go_quiet (fail)
  go_wp2
  go_ret
  exact ⟨by simp, _, rfl⟩
theorem bytes_cells (b q g : Nat) (l cap : Nat) (w : World) (c0 : w.cell? ⟨b, q, none⟩ = some (.slice (some ⟨g, 0, none⟩) l cap)) (c1 : w.cell? ⟨b, q + 1, none⟩ = some (.int .i64 0)) (hc : 64 ≤ cap) :
    Calls Tryz.prog 45 #[.pointer (some ⟨b, q, none⟩)] w fun e w' => e = .returned (.slice (some ⟨g, 0, none⟩) l cap) ∧ ∃ n, w' = w.drewN n := by
  have hne : ¬ cap = 0 := by omega
  go_enter Tryz.func45, Tryz.ntmps45
  go_wp2
  go_quiet (fail)
  go_wp2
  go_ret
  exact ⟨rfl, _, rfl⟩
set_option maxHeartbeats 2000000 in
theorem reset_ok {T : TypeId} {R : Nat → Option Value} {b q : Nat} {G : Option Nat} {bs : List UInt8} {w : World} (h : BF T R b q G bs w) :
    Calls Tryz.prog 43 #[.pointer (some ⟨b, q, none⟩)] w fun e w' => e = .returned (.tuple #[]) ∧ BF T R b q G [] w' ∧ Ext (fun k => k = b) w w' := by
  have f0 := h.f q
  have f1 := h.f (q + 1)
  have f2 := h.f (q + 2)
  have hE : ∀ w : World, ∀ x y z, Ext (fun k => k = b) w (((w.setCell ⟨b, q, none⟩ x).setCell ⟨b, q + 1, none⟩ y).setCell ⟨b, q + 2, none⟩ z) := fun w x y z =>
    ((Ext.at_ (S := fun k => k = b) _ rfl _).trans (Ext.at_ (S := fun k => k = b) _ rfl _)).trans (Ext.at_ (S := fun k => k = b) _ rfl _)
  obtain ⟨lr, ⟨h1, h2, h3⟩ | ⟨g, cap, cur, h1, h2, h3, h4, h5, h6, h7, h8, h9⟩⟩ := h
  · subst h1 h2
    have c0 := h3.c0
    have c1 := h3.c1
    have c2 := h3.c2
    go_enter Tryz.func43, Tryz.ntmps43
    go_wp2
    go_end0
    exact ⟨rfl, ⟨0, .inl ⟨rfl, rfl, ((h3.set0 _).set1 _).set2 _⟩⟩, hE _ _ _ _⟩
  · subst h1
    have c0 := h3.c0
    have c1 := h3.c1
    have c2 := h3.c2
    have hne : ¬ cap = 0 := by omega
    have HR := Lib.hid (⟨h3, h4, h8, h9⟩ : _ ∧ _ ∧ _ ∧ _)
    clear h3 h4 h8 h9
    go_enter Tryz.func43, Tryz.ntmps43
    go_wp2
    go_end0
    refine ⟨rfl, ⟨0, .inr ⟨g, cap, cur, rfl, h2, ((HR.out.1.set0 _).set1 _).set2 _, ?_, Nat.zero_le _, h6, h7, HR.out.2.2.1, rfl⟩⟩, hE _ _ _ _⟩
    rw [Below.heap_setCell _ _ _ _ h2, Below.heap_setCell _ _ _ _ h2, Below.heap_setCell _ _ _ _ h2]
    exact HR.out.2.1

end Go.Proofs.YthhmnnojgjpibaaGreatDoor
