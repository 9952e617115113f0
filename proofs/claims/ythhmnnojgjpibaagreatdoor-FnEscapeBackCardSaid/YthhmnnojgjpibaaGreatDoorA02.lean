/- pieces.Read: bytes of the text go into the reader's row, or io.EOF. -/
import Derived.Test.YthhmnnojgjpibaaGreatDoorProg
import Derived.Test.YthhmnnojgjpibaaGreatDoorA01
import Derived.Deep.RegionHeldLaw
import Derived.Deep.RegionHeld3
import Derived.WalkMore
import Derived.KernelRfl
import Derived.Outline
import Derived.BigGuardPart
import Derived.Deep.DeepMust
import Derived.Deep.LoopGhost
import Derived.Deep.DeepCutAuto
import Derived.Deep.CutBlock
import Derived.Deep.QuietTactic
import Derived.BigQuiet
import Derived.Lib.Hide
import Derived.Lib.BufferWrite
import Derived.WalkSpells
import Derived.Deep.Light
import Derived.Deep.RegionWith
import Derived.WalkLawsBesides
import Derived.StillTailTactics
import Derived.LaidEql
import Derived.Deep.DrawnRows

set_option linter.unusedVariables false
set_option linter.unusedSimpArgs false

namespace Go.Proofs.YthhmnnojgjpibaaGreatDoor
open Go Go.RowKit

/-- 'copy(dst, s)', s a string, dst lying in row g from place o on: the first bytes go over. -/
theorem run_copy_text {P : Program} (w : World) (dT sT ty elem : TypeId) (g o dLen dCap n : Nat) (s : ByteArray) (cur : Array Value) (t : TypeId)
    (hu : P.underlying dT = some (.slice elem)) (hs : (P.info? elem).map (·.size) = some 1) (hg : w.heap[g]? = some (.cells cur t (0, 0))) (hn : n = min s.size dLen) (hfit : o + n ≤ cur.size) :
    (Builtin.copy_ #[dT, sT] ty #[.slice (some ⟨g, o, none⟩) dLen dCap, .string s]).run P w =
      .ok (goInt n) (w.setRow g (cur.toList.take o ++ Lib.byteCells (s.data.toList.take n) ++ cur.toList.drop (o + n)).toArray) := by
  have hlen : (Lib.byteCells (s.data.toList.take n)).length = n := by rw [Lib.byteCells_length, List.length_take, ← Lib.size_eq]; omega
  have hst := run_storeCells_at P g o t (Lib.byteCells (s.data.toList.take n)) 0 cur w hg (by rw [hlen]; simpa using hfit) (Lib.byteCells_one _)
  have hmin : Nat.min s.size dLen = n := hn.symm
  have htk : List.take n (List.map (fun b : UInt8 => Value.int IntKind.u8 (b.toNat : Int)) s.data.toList) = Lib.byteCells (s.data.toList.take n) := by
    rw [← List.map_take]; rfl
  rw [hlen] at hst
  simp only [Nat.add_zero] at hst
  cases hq : P.info? elem with
  | none => simp [hq] at hs
  | some i =>
    simp [Builtin.copy_, run_underlying hu, Builtin.lenOf, Builtin.firstCells, sizeOf, typeInfo, hq, hmin]
    rw [htk, hst]
    simp [Result.andThen]

section
variable {tb tp br ba pc pl : Nat} {X : ByteArray} {r q i o x5 x6 : Int} {err : Value} {cur : Array Value} {w w' : World}
theorem RdAt.setRow_ (h : RdAt tb tp br ba pc pl X r q i o x5 x6 err cur w) (cur' : Array Value) : RdAt tb tp br ba pc pl X r q i o x5 x6 err cur' (w.setRow ba cur') := by
  have e : ∀ k, k ≠ ba → (w.setRow ba cur').heap[k]? = w.heap[k]? := fun k hk => setRow_other _ _ _ _ hk
  have h2 := e br h.ne1
  have h3 := e pc h.ne4.symm
  have h4 := e pl h.ne5.symm
  exact ⟨fun i => (World.frozen?_of_block h2).trans (h.fz i), fun i => (World.frozen?_of_block h3).trans (h.fp i), (World.cell?_of_block h2).trans h.c0, (World.cell?_of_block h2).trans h.c1, (World.cell?_of_block h2).trans h.c2,
    (World.cell?_of_block h2).trans h.c3, (World.cell?_of_block h2).trans h.c4, (World.cell?_of_block h2).trans h.c5, (World.cell?_of_block h2).trans h.c6, setRow_heap w ba cur cur' tb (0, 0) h.row,
    (World.cell?_of_block h3).trans h.p0, (World.cell?_of_block h3).trans h.p1, (World.cell?_of_block h3).trans h.p2, (World.cell?_of_block h4).trans h.px, h.ne1, h.ne2, h.ne3, h.ne4, h.ne5, h.ne6⟩
end
theorem Ext.setRow {S : Nat → Prop} (w : World) {g : Nat} (hg : S g) (c : Array Value) : Ext S w (w.setRow g c) :=
  ⟨rfl, rfl, rfl, by simp, fun k _ hn => setRow_other _ _ _ _ (fun e => hn (e ▸ hg))⟩

theorem Ext.at_ {S : Nat → Prop} (w : World) {b i : Nat} (hb : S b) (v : Value) : Ext S w (w.setCell ⟨b, i, none⟩ v) := Ext.setCell (a := ⟨b, i, none⟩) w hb v
theorem size1_5 : (Tryz.prog.info? 5).map (·.size) = some 1 := by kernel_rfl
attribute [local go_sem ↓] Go.wp_at_zero Go.wp_at_succ
set_option maxHeartbeats 4000000 in
set_option maxRecDepth 100000 in
theorem read_text {br ba pc pl : Nat} {X : ByteArray} {r q x5 x6 : Int} {o : Nat} {err : Value} {cur : Array Value} {w : World} (h : RdAt 5 65 br ba pc pl X r q 0 o x5 x6 err cur w) (ho : o < X.size) (hX : X.size ≤ 100000) (hcur : cur.size = 4096) (n : Nat) (hn : n = min (X.size - o) 4096) :
    Calls Tryz.prog 154 #[.pointer (some ⟨pc, 0, none⟩), .slice (some ⟨ba, 0, none⟩) 4096 4096] w fun e w' => e = .returned (.tuple #[.int .i64 n, .nilIface]) ∧
      RdAt 5 65 br ba pc pl X r q 0 ((o + n : Nat) : Int) x5 x6 err (Lib.byteCells ((X.data.toList.drop o).take n) ++ cur.toList.drop n).toArray w' ∧ Ext (fun k => k = ba ∨ k = pc) w w' := by
  have f0 := h.fp 0
  have f1 := h.fp 1
  have f2 := h.fp 2
  have p0 := h.p0
  have p1 := h.p1
  have p2 := h.p2
  have px := h.px
  have hne : decide ((o : Int) = (X.size : Int)) = false := by simp; omega
  have hne' : ((o : Int) == (X.size : Int)) = false := by simp; omega
  go_enter Tryz.func154, Tryz.ntmps154
  go_wp2
  refine wp_loop_rounds 1 ?_; rw [rounds_succ]
  go_wp2
  go_quiet (fail)
  obtain ⟨V1, hV1⟩ : ∃ V, V = w.drewN nq := ⟨_, rfl⟩
  rw [← hV1]
  have hR1 : RdAt 5 65 br ba pc pl X r q 0 o x5 x6 err cur V1 := by rw [hV1]; exact h.drewN _
  have hE1 : Ext (fun k => k = ba ∨ k = pc) w V1 := by rw [hV1]; exact (Ext.refl _ w).drewN _
  have p0' := hR1.p0
  have p1' := hR1.p1
  clear hV1 nq
  go_wp2
  go_quiet (fail)
  obtain ⟨V, hV⟩ : ∃ V, V = V1.drewN nq := ⟨_, rfl⟩
  rw [← hV]
  have hR : RdAt 5 65 br ba pc pl X r q 0 o x5 x6 err cur V := by rw [hV]; exact hR1.drewN _
  have hE : Ext (fun k => k = ba ∨ k = pc) w V := by rw [hV]; exact hE1.drewN _
  clear hV nq hR1 hE1 p0' p1'
  have d0 : V.drew.cell? ⟨pc, 0, none⟩ = _ := hR.p0
  have d1 : V.drew.cell? ⟨pc, 1, none⟩ = _ := hR.p1
  have d2 : V.drew.cell? ⟨pc, 2, none⟩ = _ := hR.p2
  have dx : V.drew.cell? ⟨pl, 0, none⟩ = _ := hR.px
  have hb1 : (0 : Int) ≤ (o : Int) := by omega
  have hb2 : (o : Int) ≤ (X.size : Int) := by omega
  have hcp := run_copy_text (P := Tryz.prog) V.drew 39 9 3 5 ba 0 4096 4096 n (X.extract o X.size) cur 5 Tryz.underlying39 size1_5 hR.row (by simp; exact hn) (by omega)
  have hxd : (X.extract o X.size).data.toList = X.data.toList.drop o := by
    rw [Lib.extract_data, List.take_of_length_le (by rw [List.length_drop, ← Lib.size_eq]; exact Nat.le_refl _)]
  obtain ⟨V2, hV2⟩ : ∃ V2, V2 = V.drew.setRow ba (cur.toList.take 0 ++ Lib.byteCells ((X.extract o X.size).data.toList.take n) ++ cur.toList.drop (0 + n)).toArray := ⟨_, rfl⟩
  have hR2 : RdAt 5 65 br ba pc pl X r q 0 o x5 x6 err (Lib.byteCells ((X.data.toList.drop o).take n) ++ cur.toList.drop n).toArray V2 := by
    have := hR.drew.setRow_ (cur.toList.take 0 ++ Lib.byteCells ((X.extract o X.size).data.toList.take n) ++ cur.toList.drop (0 + n)).toArray
    rw [hV2]
    rwa [hxd, List.take_zero, List.nil_append, Nat.zero_add] at this ⊢
  have hE2 : Ext (fun k => k = ba ∨ k = pc) w V2 := by rw [hV2]; exact (hE.drewN 1).trans (Ext.setRow _ (.inl rfl) _)
  rw [← hV2] at hcp
  have g2 : V2.frozen? ⟨pc, 2, none⟩ = false := hR2.fp 2
  have k2 : V2.cell? ⟨pc, 2, none⟩ = _ := hR2.p2
  have hn3 : n ≤ 4096 := by omega
  have HE := Lib.hid hE2
  have HR := Lib.hid hR2
  have HN := Lib.hid hn
  clear hxd hV2 hR2 hE2
  have HC := Lib.hid hcur
  clear hE hR f0 f1 f2 p0 p1 p2 px h hn hcur
  go_upto_region 5 with fail
  go_still_tail 16, (by kernel_rfl)
  go_wp2_with fail
  go_ret2
  exact ⟨rfl, by have := HR.out.setO ((o + n : Nat) : Int); simpa using this, HE.out.trans (Ext.setCell _ (.inr rfl) _)⟩

/-- io.EOF. -/
def EofV (ev : Value) (w : World) : Prop := w.cell? ⟨0, 0, none⟩ = some ev ∧ ∃ a : Addr, ev = .iface 177 (.pointer (some a))
theorem EofV.keep {ev : Value} {w w' : World} (h : EofV ev w) (e : w'.heap[0]? = w.heap[0]?) : EofV ev w' := ⟨(World.cell?_of_block e).trans h.1, h.2⟩
set_option maxHeartbeats 4000000 in
set_option maxRecDepth 100000 in
theorem read_eof1 {br ba pc pl : Nat} {X : ByteArray} {r q x5 x6 : Int} {err ev : Value} {cur : Array Value} {w : World} (h : RdAt 5 65 br ba pc pl X r q 1 0 x5 x6 err cur w) (hev : EofV ev w) :
    Calls Tryz.prog 154 #[.pointer (some ⟨pc, 0, none⟩), .slice (some ⟨ba, 0, none⟩) 4096 4096] w fun e w' => e = .returned (.tuple #[.int .i64 0, ev]) ∧
      RdAt 5 65 br ba pc pl X r q 1 0 x5 x6 err cur w' ∧ Ext (fun k => k = pc) w w' := by
  obtain ⟨hev, a, rfl⟩ := hev
  have p0 := h.p0
  have p1 := h.p1
  have p2 := h.p2
  go_enter Tryz.func154, Tryz.ntmps154
  go_wp2
  refine wp_loop_rounds 1 ?_; rw [rounds_succ]
  go_wp2
  go_quiet (fail)
  go_wp2
  go_quiet (fail)
  go_wp2
  go_quiet (fail)
  go_wp2
  go_ret2
  exact ⟨rfl, ((h.drewN _).drewN _).drewN _, (((Ext.refl _ w).drewN _).drewN _).drewN _⟩
set_option maxHeartbeats 4000000 in
set_option maxRecDepth 100000 in
theorem read_eof0 {br ba pc pl : Nat} {X : ByteArray} {r q x5 x6 : Int} {err ev : Value} {cur : Array Value} {w : World} (h : RdAt 5 65 br ba pc pl X r q 0 X.size x5 x6 err cur w) (hev : EofV ev w) (hpc : pc ≠ 0) :
    Calls Tryz.prog 154 #[.pointer (some ⟨pc, 0, none⟩), .slice (some ⟨ba, 0, none⟩) 4096 4096] w fun e w' => e = .returned (.tuple #[.int .i64 0, ev]) ∧
      RdAt 5 65 br ba pc pl X r q 1 0 x5 x6 err cur w' ∧ Ext (fun k => k = pc) w w' := by
  have p0 := h.p0
  have p1 := h.p1
  have p2 := h.p2
  have px := h.px
  have f1 := h.fp 1
  have f2 := h.fp 2
  go_enter Tryz.func154, Tryz.ntmps154
  go_wp2
  refine wp_loop_rounds 2 ?_; rw [rounds_succ]
  go_wp2
  go_quiet (fail)
  obtain ⟨V1, hV1⟩ : ∃ V, V = w.drewN nq := ⟨_, rfl⟩
  rw [← hV1]
  have hR1 : RdAt 5 65 br ba pc pl X r q 0 X.size x5 x6 err cur V1 := by rw [hV1]; exact h.drewN _
  have hE1 : Ext (fun k => k = pc) w V1 := by rw [hV1]; exact (Ext.refl _ w).drewN _
  have hv1 : EofV ev V1 := by rw [hV1]; exact hev
  have p0' := hR1.p0
  have p1' := hR1.p1
  have p2' := hR1.p2
  have f1' := hR1.fp 1
  have f2' := hR1.fp 2
  clear hV1 nq p0 p1 p2 px f1 f2 h hev
  have HR := Lib.hid hR1
  have HE := Lib.hid hE1
  have HV := Lib.hid hv1
  clear hR1 hE1 hv1
  go_wp2
  obtain ⟨V2, hV2⟩ : ∃ V2, V2 = (V1.setCell ⟨pc, 1, none⟩ (.int .i64 1)).setCell ⟨pc, 2, none⟩ (.int .i64 0) := ⟨_, rfl⟩
  rw [← hV2]
  have hR2 : RdAt 5 65 br ba pc pl X r q 1 0 x5 x6 err cur V2 := by rw [hV2]; exact (HR.out.setI 1).setO 0
  have hE2 : Ext (fun k => k = pc) w V2 := by rw [hV2]; exact (HE.out.trans (Ext.at_ (S := fun k => k = pc) _ rfl _)).trans (Ext.at_ (S := fun k => k = pc) _ rfl _)
  have hv2 : EofV ev V2 := by
    rw [hV2]
    exact (HV.out.keep (Below.heap_setCell _ _ _ _ hpc.symm)).keep (Below.heap_setCell _ _ _ _ hpc.symm)
  have hv3 := hv2.1
  clear hV2 HR HE HV p0' p1' p2' f1' f2'
  have s0 := hR2.p0
  have s1 := hR2.p1
  have s2 := hR2.p2
  have HR := Lib.hid hR2
  have HE := Lib.hid hE2
  obtain ⟨_, a, rfl⟩ := hv2
  clear hR2 hE2
  rw [rounds_succ]
  go_wp2
  go_quiet (fail)
  go_wp2
  go_quiet (fail)
  go_wp2
  go_quiet (fail)
  go_wp2
  go_ret2
  exact ⟨rfl, ((HR.out.drewN _).drewN _).drewN _, ((HE.out.drewN _).drewN _).drewN _⟩

end Go.Proofs.YthhmnnojgjpibaaGreatDoor
