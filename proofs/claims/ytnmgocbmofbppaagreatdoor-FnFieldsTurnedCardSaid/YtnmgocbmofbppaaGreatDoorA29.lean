/- sameIndex, sameWords: what is alike is told to be alike. What the listed variables give: the tables of letters, of printing, of decoding; io.EOF; strconv.ErrSyntax. The witness's world. The rows of the Fields pair: what both share. -/
import Derived.Test.YtnmgocbmofbppaaGreatDoorA28
import Derived.Test.YtnmgocbmofbppaaGreatDoorA27
import Derived.Test.YtnmgocbmofbppaaGreatDoorRows
import Derived.Test.YtnmgocbmofbppaaGreatDoorShelf
import Derived.Test.YtnmgocbmofbppaaGreatDoorA21
import Derived.Test.YtnmgocbmofbppaaGreatDoorCards
import Derived.Test.YtnmgocbmofbppaaGreatDoorTie
import Derived.Shelf.Unicode.PredsPay
import Derived.PinnedBridge
import Derived.Lib.LaidRTabT
import Derived.Lib.LaidPrint
import Derived.Lib.LaidU8T
import Derived.Lay
import Derived.LaidOnce
import Derived.Stop.LaidErr
import Derived.Deep.DeepHandedRow
import Derived.Deep.DeepWitnessRowRef
import Derived.SevenTiedAt

set_option linter.unusedVariables false
set_option linter.unusedSimpArgs false

namespace Go.Proofs.YtnmgocbmofbppaaGreatDoor
open Go.RowKit

/-- What a comparison leaves: true, where both are alike. -/
def SameP (q : Prop) (w : World) (e : Ending) (w' : World) : Prop := ∃ r, e = .returned (.bool r) ∧ Below w.heap.size w w' ∧ (q → r = true)
set_option maxHeartbeats 1000000 in
set_option maxRecDepth 100000 in
theorem sameIndex_any (va vb : Value) (ia ib : List Nat) (w : World) (hA : IdxV w va ia) (hB : IdxV w vb ib) (hla : ia.length ≤ 1000001) (hlb : ib.length ≤ 1000001) : Calls Tryz.prog 10 #[va, vb] w (SameP (ia = ib) w) := by
  obtain ⟨ba, ca, rfl, hca⟩ := hA
  obtain ⟨bb, cb, rfl, hcb⟩ := hB
  have HA := Lib.hid hca
  have HB := Lib.hid hcb
  clear hca hcb
  by_cases hl : ia.length = ib.length
  · obtain ⟨n, hn⟩ : ∃ n, ib.length = n := ⟨_, rfl⟩
    rw [hn] at hl
    rw [hl, hn]
    have HL := Lib.hid hl
    have HN := Lib.hid hn
    have hlb : n ≤ 1000001 := by omega
    clear hl hn hla
    go_enter Tryz.func10, Tryz.ntmps10
    go_wp2_with fail
    go_loopg [5] n (fun gk s5 wx => ∃ j : Nat, s5 = .int .i64 j ∧ j ≤ n ∧ gk = n - j ∧ Below w.heap.size w wx)
    case atStart => exact ⟨0, rfl, Nat.zero_le _, rfl, Below.refl _ _⟩
    case round =>
      obtain ⟨j, rfl, hj, rfl, hb⟩ := hrel
      obtain ⟨V, hV⟩ : ∃ V, V = wr := ⟨_, rfl⟩
      subst hV
      have HBV := Lib.hid hb
      clear hb
      by_cases hlt : j < n
      · obtain ⟨x, hx⟩ : ∃ x, ia[j]? = some x := ⟨_, List.getElem?_eq_getElem (by have := HL.out; omega)⟩
        obtain ⟨y, hy⟩ : ∃ y, ib[j]? = some y := ⟨_, List.getElem?_eq_getElem (by have := HN.out; omega)⟩
        have x0 := HA.out j x hx
        have y0 := HB.out j y hy
        have x1 : V.drew.cell? ⟨ba, j, none⟩ = some (.int .i64 (x : Int)) := (World.cell?_of_block (HBV.out.block ba (lt_cell x0))).trans x0
        have y1 : V.drew.cell? ⟨bb, j, none⟩ = some (.int .i64 (y : Int)) := (World.cell?_of_block (HBV.out.block bb (lt_cell y0))).trans y0
        have hj0 : (0 : Int) ≤ (j : Int) := by omega
        have hj1 : (j : Int) < (n : Int) := by omega
        have HX := Lib.hid hx
        have HY := Lib.hid hy
        clear x0 y0 hx hy
        obtain ⟨q, hq⟩ : ∃ q, ((x : Int) == (y : Int)) = q := ⟨_, rfl⟩
        go_upto_region 6 with fail
        go_region_held3 (fun w' => w'.cell? ⟨ba, j, none⟩ = some (.int .i64 (x : Int)) ∧ w'.cell? ⟨bb, j, none⟩ = some (.int .i64 (y : Int))) (with_reducible exact ⟨x1, y1⟩) (fail)
        all_goals
          cases q with
          | true =>
            go_wp2_with fail
            go_roundg (n - (j + 1))
            case measure => omega
            case rel => exact ⟨j + 1, by go_num, by omega, rfl, HBV.out.drew⟩
          | false =>
            have hne : x ≠ y := fun e => by subst e; simp at hq
            go_wp2_with fail
            go_ret
            refine ⟨false, rfl, HBV.out.drew, fun e => ?_⟩
            subst e
            have h1 := HX.out
            rw [HY.out] at h1
            exact absurd (Option.some.inj h1).symm hne
      · have hje : j = n := by omega
        subst hje
        go_wp2_with fail
        go_ret
        exact ⟨true, rfl, HBV.out, fun _ => rfl⟩
  · have hz : ((ia.length : Int) == (ib.length : Int)) = false := by rw [beq_eq_false_iff_ne]; omega
    go_enter Tryz.func10, Tryz.ntmps10
    go_wp2_with fail
    go_ret
    exact ⟨false, rfl, Below.refl _ _, fun e => absurd (by rw [e]) hl⟩
set_option maxHeartbeats 1000000 in
set_option maxRecDepth 100000 in
theorem sameWords_any (va vb : Value) (ia ib : List ByteArray) (w : World) (hA : ParV w va ia) (hB : ParV w vb ib) (hla : ia.length ≤ 1000001) (hlb : ib.length ≤ 1000001) : Calls Tryz.prog 11 #[va, vb] w (SameP (ia = ib) w) := by
  obtain ⟨Aa, ca, rfl, hca⟩ := hA
  obtain ⟨Ab, cb, rfl, hcb⟩ := hB
  have HA := Lib.hid hca
  have HB := Lib.hid hcb
  clear hca hcb
  by_cases hl : ia.length = ib.length
  · obtain ⟨n, hn⟩ : ∃ n, ib.length = n := ⟨_, rfl⟩
    rw [hn] at hl
    rw [hl, hn]
    have HL := Lib.hid hl
    have HN := Lib.hid hn
    have hlb : n ≤ 1000001 := by omega
    clear hl hn hla
    go_enter Tryz.func11, Tryz.ntmps11
    go_wp2_with fail
    go_loopg [5] n (fun gk s5 wx => ∃ j : Nat, s5 = .int .i64 j ∧ j ≤ n ∧ gk = n - j ∧ Below w.heap.size w wx)
    case atStart => exact ⟨0, rfl, Nat.zero_le _, rfl, Below.refl _ _⟩
    case round =>
      obtain ⟨j, rfl, hj, rfl, hb⟩ := hrel
      obtain ⟨V, hV⟩ : ∃ V, V = wr := ⟨_, rfl⟩
      subst hV
      have HBV := Lib.hid hb
      clear hb
      by_cases hlt : j < n
      · obtain ⟨x, hx⟩ : ∃ x, ia[j]? = some x := ⟨_, List.getElem?_eq_getElem (by have := HL.out; omega)⟩
        obtain ⟨y, hy⟩ : ∃ y, ib[j]? = some y := ⟨_, List.getElem?_eq_getElem (by have := HN.out; omega)⟩
        obtain ⟨ba, rfl, x0⟩ := HA.out j x hx
        obtain ⟨bb, rfl, y0⟩ := HB.out j y hy
        have x1 : V.drew.cell? ⟨ba, j, none⟩ = some (.string x) := (World.cell?_of_block (HBV.out.block ba (lt_cell x0))).trans x0
        have y1 : V.drew.cell? ⟨bb, j, none⟩ = some (.string y) := (World.cell?_of_block (HBV.out.block bb (lt_cell y0))).trans y0
        have hj0 : (0 : Int) ≤ (j : Int) := by omega
        have hj1 : (j : Int) < (n : Int) := by omega
        have HX := Lib.hid hx
        have HY := Lib.hid hy
        clear x0 y0 hx hy
        obtain ⟨q, hq⟩ : ∃ q, (x.toList == y.toList) = q := ⟨_, rfl⟩
        go_upto_region 6 with fail
        go_region_held3 (fun w' => w'.cell? ⟨ba, j, none⟩ = some (.string x) ∧ w'.cell? ⟨bb, j, none⟩ = some (.string y)) (with_reducible exact ⟨x1, y1⟩) (fail)
        all_goals
          cases q with
          | true =>
            go_wp2_with fail
            go_roundg (n - (j + 1))
            case measure => omega
            case rel => exact ⟨j + 1, by go_num, by omega, rfl, HBV.out.drew⟩
          | false =>
            have hne : x ≠ y := fun e => by subst e; simp at hq
            go_wp2_with fail
            go_ret
            refine ⟨false, rfl, HBV.out.drew, fun e => ?_⟩
            subst e
            have h1 := HX.out
            rw [HY.out] at h1
            exact absurd (Option.some.inj h1).symm hne
      · have hje : j = n := by omega
        subst hje
        go_wp2_with fail
        go_ret
        exact ⟨true, rfl, HBV.out, fun _ => rfl⟩
  · have hz : ((ia.length : Int) == (ib.length : Int)) = false := by rw [beq_eq_false_iff_ne]; omega
    go_enter Tryz.func11, Tryz.ntmps11
    go_wp2_with fail
    go_ret
    exact ⟨false, rfl, Below.refl _ _, fun e => absurd (by rw [e]) hl⟩
end Go.Proofs.YtnmgocbmofbppaaGreatDoor
namespace Go.Proofs.YtnmgocbmofbppaaGreatDoor
open Go.RowKit Go.Proofs Go.Lib

theorem row154 (u : TypeId) (h : Tryz.prog.typeName? 3 u = some "*errors.errorString") : u = 154 :=
  typeName_ptr_named (nm := "errors.errorString") (by rw [show ("*" ++ "errors.errorString") = "*errors.errorString" by decide]; kernel_rfl) (by kernel_rfl) (by decide) u (by rw [show ("*" ++ "errors.errorString") = "*errors.errorString" by decide]; exact h)
theorem und156 : Tryz.prog.underlying 156 = some (.struct #[{ name := "s", type := 9, offset := 0, embedded := false, tag := "", pkgPath := "errors", byteOffset := 0 }]) := by kernel_rfl
theorem cellsOf156 : Tryz.prog.cellsOf 156 = 1 := by kernel_rfl
theorem cellsOf_9 : Tryz.prog.cellsOf 9 = 1 := by kernel_rfl
set_option maxRecDepth 1000000 in
/-- A sentinel at the head of the list. -/
theorem sentinel_at {n : String} {text : List UInt8} {r : List (String × DataW Unit)} {W : World} {g : Nat} (h : laidMet Tryz.prog ((n, .iface "*errors.errorString" (.ptr (.agg [.lit (.string text)]))) :: r) W)
    (hg : Tryz.prog.globalNamed n = some g) (ht : (Tryz.prog.globals[g]?).map (·.type) = some 62) : ∃ (a : Addr) (ca : Array Value) (ta : TypeId), W.cell? ⟨g, 0, none⟩ = some (.iface 154 (.pointer (some a))) ∧ W.heap[a.block]? = some (.cells ca ta (0, 0)) := by
  obtain ⟨ps, ⟨g0, t0, cs0, f0, p0, q0, hg0, ht0, hv0, hd0, _, e0⟩, _, hrows⟩ := h
  obtain rfl := Option.some.inj (hg.symm.trans hg0)
  obtain rfl := Option.some.inj (ht.symm.trans ht0)
  subst e0
  obtain ⟨l0⟩ := cs0
  have ok0 : ∀ u v, l0 = [.iface u v] → Value.okWide Tryz.prog W .any 0 u v := fun u v e => by
    subst e
    exact (hrows g 0 (by simp [MemPlace.row])).2 u v (by simpa using World.var?_cell hg0 hv0 0)
  obtain ⟨a0, s0, rfl, hc0, hs0, hz0, hp0⟩ := errorString_of_trod Tryz.underlying62 row154 Tryz.underlying154 und156 rfl rfl Tryz.underlying9 cellsOf156 cellsOf_9 hd0 ok0
  have hm : MemPlace.cell a0.block a0.off ∈ MemPlace.row ⟨g, 0, none⟩ (#[Value.iface 154 (.pointer (some a0))] : Array Value).size ++ p0 ++ q0 := by
    rw [hp0]
    simp [MemPlace.row]
  obtain ⟨⟨c, t, hb⟩, _⟩ := hrows a0.block a0.off hm
  exact ⟨a0, c, t, by simpa using World.var?_cell hg0 hv0 0, hb⟩
theorem xR : RExtra Tryz.prog Tryz.lays261_ren := ⟨by kernel_rfl, by kernel_rfl, by kernel_rfl, by kernel_rfl, by kernel_rfl, by kernel_rfl, by kernel_rfl, by kernel_rfl⟩
theorem xP : PrintExtra Tryz.prog Tryz.lays339_ren := ⟨by kernel_rfl, by kernel_rfl, by kernel_rfl, by kernel_rfl, by kernel_rfl, by kernel_rfl, by kernel_rfl, by kernel_rfl, by kernel_rfl, by kernel_rfl⟩
theorem xU : U8Extra Tryz.prog Tryz.lays260_ren := ⟨by kernel_rfl, by kernel_rfl, by kernel_rfl, by kernel_rfl, by kernel_rfl, by kernel_rfl, by kernel_rfl⟩
theorem gProps : Tryz.prog.globalNamed "unicode.properties" = some 1 := by kernel_rfl
theorem gPropsT : (Tryz.prog.globals[1]?).map (·.type) = some 148 := by kernel_rfl
theorem und148 : Tryz.prog.underlying 148 = some (.array 256 5) := by kernel_rfl
theorem cellsOf148 : Tryz.prog.cellsOf 148 = 256 := by kernel_rfl
theorem cellsOf_5 : Tryz.prog.cellsOf 5 = 1 := by kernel_rfl
set_option maxRecDepth 1000000 in
theorem props_eq : (Rows.laid_unicode_properties : DataW Unit) = Lib.tabData .u8 Lib.propertiesTab := by kernel_rfl
set_option maxRecDepth 1000000 in
theorem accept_eq : (Rows.laid_unicode_utf8_acceptRanges : DataW Unit) = acceptData := by kernel_rfl
/-- The list of the two rows. -/
abbrev laidL : List (String × DataW Unit) := Rows.fnFieldsInnerRow.laid
set_option maxRecDepth 1000000 in
/-- What a walk of the Fields pair asks of its world. -/
theorem laid_facts {W : World} (h : laidMet Tryz.prog laidL W) : Uni upperT W.heap.size W ∧ Tabs W.heap.size W ∧ EofC W.heap.size W := by
  have h1 := h
  have h2 := laidMet.tail h1
  have h3 := laidMet.tail h2
  have h4 := laidMet.tail h3
  have hp : Lib.TabIs Tryz.prog W "unicode.properties" .u8 Lib.propertiesTab := Lib.tabIs_of_head gProps gPropsT und148 Tryz.underlying5 cellsOf_5 cellsOf148 (by rw [← props_eq]; exact h4)
  have rL : RVar 2 letterT W := rvar_of_reads { Tryz.lays261 with } xR (name := "unicode.Letter") (by kernel_rfl) (by kernel_rfl) (by rw [← Pinned.letter_eq]; exact Lib.laidMet.reads h (by simp [laidL, Rows.fnFieldsInnerRow, Rows.laid_unicode_Letter]))
  have rD : RVar 3 digitT W := rvar_of_reads { Tryz.lays261 with } xR (name := "unicode.Digit") (by kernel_rfl) (by kernel_rfl) (by rw [← Pinned.digit_eq]; exact Lib.laidMet.reads h (by simp [laidL, Rows.fnFieldsInnerRow, Rows.laid_unicode_Digit]))
  have rU : RVar 4 upperT W := rvar_of_reads { Tryz.lays261 with } xR (name := "unicode.Upper") (by kernel_rfl) (by kernel_rfl) (by rw [← Pinned.upper_eq]; exact Lib.laidMet.reads h (by simp [laidL, Rows.fnFieldsInnerRow, Rows.laid_unicode_Upper]))
  have hP : Lib.PrintTabsAt 9 10 11 12 goPrintTabs W := printTabs_of_reads Tryz.lays339 xP
    (by rw [← Pinned.isPrint16_eq]; exact Lib.laidMet.reads h (by simp [laidL, Rows.fnFieldsInnerRow, Rows.laid_strconv_isPrint16]))
    (by rw [← Pinned.isNotPrint16_eq]; exact Lib.laidMet.reads h (by simp [laidL, Rows.fnFieldsInnerRow, Rows.laid_strconv_isNotPrint16]))
    (by rw [← Pinned.isPrint32_eq]; exact Lib.laidMet.reads h (by simp [laidL, Rows.fnFieldsInnerRow, Rows.laid_strconv_isPrint32]))
    (by rw [← Pinned.isNotPrint32_eq]; exact Lib.laidMet.reads h (by simp [laidL, Rows.fnFieldsInnerRow, Rows.laid_strconv_isNotPrint32]))
  have hU : Lib.Utf8Tabs 6 7 W := utf8Tabs_of_readsT (U8Types.of260 Tryz.lays260) xU
    (by rw [← Pinned.utf8First_eq]; exact Lib.laidMet.reads h (by simp [laidL, Rows.fnFieldsInnerRow, Rows.laid_unicode_utf8_first]))
    (by rw [← accept_eq]; exact Lib.laidMet.reads h (by simp [laidL, Rows.fnFieldsInnerRow]))
  obtain ⟨a5, _, _, hS, _⟩ := sentinel_at (g := 5) h2 (by kernel_rfl) (by kernel_rfl)
  obtain ⟨a0, c0, t0, hE, hE2⟩ := sentinel_at (g := 0) h3 (by kernel_rfl) (by kernel_rfl)
  have hl5 := World.block_lt_of_cell? W _ hS
  have hl0 := World.block_lt_of_cell? W _ hE
  have hla : a0.block < W.heap.size := by
    rcases Nat.lt_or_ge a0.block W.heap.size with h | h
    · exact h
    · rw [Array.getElem?_eq_none h] at hE2; cases hE2
  refine ⟨⟨letterT, digitT, letterT_ok, digitT_ok, upperT_ok, fun w' hb => ⟨TabIs_below gProps hp hb, RVar_below rL hb, RVar_below rD hb, RVar_below rU hb⟩⟩, ⟨goPrintTabs, fun w' hb => ⟨printTabs_below hP hb, Utf8Tabs_below hU hb, a5, (World.cell?_of_block (hb.block 5 hl5)).trans hS⟩⟩, a0, c0, t0, hla, by omega, hE, hE2⟩
end Go.Proofs.YtnmgocbmofbppaaGreatDoor
namespace Go.Proofs.YtnmgocbmofbppaaGreatDoor
open Go.ChangeShapes Go.WideShapes Go.ChangeAt Go.RowKit
open Go.ChangeMaps (open_string shut_string)

theorem own_knob : ownKnob Tryz.prog.godebug = none := by kernel_rfl
theorem laidOut_ : laidOutB Tryz.prog = true := by kernel_rfl
theorem read22 : Tryz.prog.readableRec 22 = true := by kernel_rfl
theorem read24 : Tryz.prog.readableRec 24 = true := by kernel_rfl
theorem row22 : 22 < Tryz.prog.types.size := of_decide_eq_true (by kernel_rfl)
theorem row24 : 24 < Tryz.prog.types.size := of_decide_eq_true (by kernel_rfl)
section
variable {H : Type} {enc : TypeId × Value → H} {w : World} {base : Nat}
theorem slice_cell {P : Program} {r : Reach} {b0 : Nat} {t e : TypeId} {v : Value} (ht : P.underlying t = some (.slice e)) (hval : Value.okWide P w r b0 t v) : v.cells.toList = [v] := by
  unfold Value.okWide at hval
  simp only [ht] at hval
  unfold Cell.okWide at hval
  cases v <;> simp_all [Value.cells, Cell.ok]
/-- What is read stays as it is, where no old block has turned. -/
theorem trod_below {t : TypeId} {v : Value} {d : DataW H} {ps : List MemPlace} {w' : World} (hr : Tryz.prog.readableRec t = true) (hrow : t < Tryz.prog.types.size) (h : DataW.Trod enc Tryz.prog w 0 (fun _ => true) true t v d ps) (hlt : ∀ p ∈ ps, p.block < w.heap.size) (hb : Below w.heap.size w w') :
    DataW.Trod enc Tryz.prog w' 0 (fun b => decide (b < w.heap.size)) true t v d ps := by
  refine WideElems.Trod_stays laidOut_ hr hrow h (fun p hp => ?_) (fun p hp => by simpa using hlt p hp)
  have hb2 := hb.block p.block (hlt p hp)
  cases p with
  | cell b o => exact World.cell?_of_block hb2
  | map b => exact hb2
end
/-- The world of the witness. -/
noncomputable abbrev witW (os : Os) : World := World.laidAll Tryz.prog os laidL
set_option maxRecDepth 1000000 in
theorem wit_laid (os : Os) (args : Array Value) : laidMet Tryz.prog laidL ((witW os).forCall (fun _ _ => 0) ⟨#[], args, []⟩).memory := laidMet_laidAll args (by kernel_rfl) (by kernel_rfl)
theorem laid_plainH (W : World) : laidMetH Tryz.prog laidL W = laidMet Tryz.prog laidL W := MakeChecks.laidMetH_plain _ _ _ (by kernel_rfl)
end Go.Proofs.YtnmgocbmofbppaaGreatDoor
