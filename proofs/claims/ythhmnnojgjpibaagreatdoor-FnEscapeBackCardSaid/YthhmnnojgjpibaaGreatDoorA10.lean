/- What the listed variables give: the tables of decoding; io.EOF. The witness's world. -/
import Derived.Test.YthhmnnojgjpibaaGreatDoorA09
import Derived.Test.YthhmnnojgjpibaaGreatDoorRows
import Derived.PinnedBridge
import Derived.Lib.LaidU8T
import Derived.Lay
import Derived.LaidOnce
import Derived.Stop.LaidErr

set_option linter.unusedVariables false
set_option linter.unusedSimpArgs false

namespace Go.Proofs.YthhmnnojgjpibaaGreatDoor
open Go.RowKit Go.Proofs Go.Lib Go.Shelf

theorem row177 (u : TypeId) (h : Tryz.prog.typeName? 3 u = some "*errors.errorString") : u = 177 :=
  typeName_ptr_named (nm := "errors.errorString") (by rw [show ("*" ++ "errors.errorString") = "*errors.errorString" by decide]; kernel_rfl) (by kernel_rfl) (by decide) u (by rw [show ("*" ++ "errors.errorString") = "*errors.errorString" by decide]; exact h)
theorem und179 : Tryz.prog.underlying 179 = some (.struct #[{ name := "s", type := 9, offset := 0, embedded := false, tag := "", pkgPath := "errors", byteOffset := 0 }]) := by kernel_rfl
theorem cellsOf179 : Tryz.prog.cellsOf 179 = 1 := by kernel_rfl
theorem cellsOf_9 : Tryz.prog.cellsOf 9 = 1 := by kernel_rfl
set_option maxRecDepth 1000000 in
/-- A sentinel at the head of the list. -/
theorem sentinel_at {n : String} {text : List UInt8} {r : List (String × DataW Unit)} {W : World} {g : Nat} (h : laidMet Tryz.prog ((n, .iface "*errors.errorString" (.ptr (.agg [.lit (.string text)]))) :: r) W)
    (hg : Tryz.prog.globalNamed n = some g) (ht : (Tryz.prog.globals[g]?).map (·.type) = some 45) : ∃ (a : Addr), W.cell? ⟨g, 0, none⟩ = some (.iface 177 (.pointer (some a))) := by
  obtain ⟨ps, ⟨g0, t0, cs0, f0, p0, q0, hg0, ht0, hv0, hd0, _, e0⟩, _, hrows⟩ := h
  obtain rfl := Option.some.inj (hg.symm.trans hg0)
  obtain rfl := Option.some.inj (ht.symm.trans ht0)
  subst e0
  obtain ⟨l0⟩ := cs0
  have ok0 : ∀ u v, l0 = [.iface u v] → Value.okWide Tryz.prog W .any 0 u v := fun u v e => by
    subst e
    exact (hrows g 0 (by simp [MemPlace.row])).2 u v (by simpa using World.var?_cell hg0 hv0 0)
  obtain ⟨a0, s0, rfl, hc0, hs0, hz0, hp0⟩ := errorString_of_trod Tryz.underlying45 row177 Tryz.underlying177 und179 rfl rfl Tryz.underlying9 cellsOf179 cellsOf_9 hd0 ok0
  exact ⟨a0, by simpa using World.var?_cell hg0 hv0 0⟩
/-- The types of utf8's tables. -/
def renU : Ren := ⟨fun x => x, fun x => if x = 119 then 154 else if x = 138 then 157 else if x = 139 then 158 else x, fun x => if x = 3 then 1 else if x = 4 then 2 else x⟩
theorem tyU : U8Types Tryz.prog renU := ⟨by kernel_rfl, by kernel_rfl, by kernel_rfl, by kernel_rfl⟩
theorem xU : U8Extra Tryz.prog renU := ⟨by kernel_rfl, by kernel_rfl, by kernel_rfl, by kernel_rfl, by kernel_rfl, by kernel_rfl, by kernel_rfl⟩
set_option maxRecDepth 1000000 in
theorem accept_eq : (Rows.laid_unicode_utf8_acceptRanges : DataW Unit) = acceptData := by kernel_rfl
/-- The list of the row. -/
abbrev laidL : List (String × DataW Unit) := Rows.fnEscapeBackRow.laid
set_option maxRecDepth 1000000 in
/-- What a walk asks of its world. -/
theorem laid_facts {W : World} (h : laidMet Tryz.prog laidL W) : U8 W.heap.size W ∧ (∃ ev, EofV ev W) ∧ 0 < W.heap.size := by
  have h1 := laidMet.tail (laidMet.tail (laidMet.tail (laidMet.tail (laidMet.tail (laidMet.tail h)))))
  have hU : Lib.Utf8Tabs 1 2 W := utf8Tabs_of_readsT tyU xU
    (by rw [← Pinned.utf8First_eq]; exact Lib.laidMet.reads h (by simp [laidL, Rows.fnEscapeBackRow, Rows.laid_unicode_utf8_first]))
    (by rw [← accept_eq]; exact Lib.laidMet.reads h (by simp [laidL, Rows.fnEscapeBackRow]))
  obtain ⟨a0, hE⟩ := sentinel_at (g := 0) h1 (by kernel_rfl) (by kernel_rfl)
  exact ⟨fun w' hb => Utf8Tabs_below hU hb, ⟨_, hE, a0, rfl⟩, World.block_lt_of_cell? W _ hE⟩
theorem own_knob : ownKnob Tryz.prog.godebug = none := by kernel_rfl
/-- The world of the witness. -/
noncomputable abbrev witW (os : Os) : World := World.laidAll Tryz.prog os laidL
set_option maxRecDepth 1000000 in
theorem wit_laid (os : Os) (args : Array Value) : laidMet Tryz.prog laidL ((witW os).forCall (fun _ _ => 0) ⟨#[], args, []⟩).memory := laidMet_laidAll args (by kernel_rfl) (by kernel_rfl)
theorem laid_plainH (W : World) : laidMetH Tryz.prog laidL W = laidMet Tryz.prog laidL W := MakeChecks.laidMetH_plain _ _ _ (by kernel_rfl)

end Go.Proofs.YthhmnnojgjpibaaGreatDoor
