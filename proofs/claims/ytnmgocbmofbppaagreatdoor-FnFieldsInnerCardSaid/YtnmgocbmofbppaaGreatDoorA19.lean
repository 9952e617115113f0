/- The probe of sees, as a type. loops and lists, at the probe of sees. ways and soundIn, at the probe of sees. word, number and make at the field of the probe of sees. -/
import Derived.Test.YtnmgocbmofbppaaGreatDoorA11
import Derived.Test.YtnmgocbmofbppaaGreatDoorA10
import Derived.Test.YtnmgocbmofbppaaGreatDoorA06
import Derived.KernelRfl
import Derived.Outline
import Derived.BigGuardPart
import Derived.Deep.DeepMust
import Derived.Deep.LoopGhost
import Derived.Deep.DeepCutAuto
import Derived.Deep.CutBlock
import Derived.Deep.QuietTactic
import Derived.BigQuiet
import Derived.Lib.Hide
import Derived.WalkSpells
import Derived.Deep.Light
import Derived.Deep.RegionWith
import Derived.WalkLawsBesides
import Derived.StillTailTactics

set_option linter.unusedVariables false
set_option linter.unusedSimpArgs false

namespace Go.Proofs.YtnmgocbmofbppaaGreatDoor
open Go.RowKit

abbrev pbTag : ByteArray := ⟨#[120, 109, 108, 58, 34, 98, 44, 97, 116, 116, 114, 34]⟩
/-- The type of the field of the probe. -/
abbrev pbInt : Ty := .mk 2 64 ⟨#[]⟩ [] []
abbrev pbFl : Fl := .mk ⟨#[65]⟩ pbTag false pbInt
/-- The probe. -/
abbrev pbT : Ty := .mk 13 0 ⟨#[]⟩ [] [pbFl]
theorem pb_wf : pbT.wf := by
  unfold Ty.wf
  refine ⟨by decide, by decide, fun h => absurd rfl h, trivial, ⟨?_, trivial⟩⟩
  show Ty.wf pbInt
  unfold Ty.wf
  exact ⟨by decide, by decide, fun _ => rfl, trivial, trivial⟩
end Go.Proofs.YtnmgocbmofbppaaGreatDoor
namespace Go.Proofs.YtnmgocbmofbppaaGreatDoor
open Go.RowKit

/-- What TyV says of the probe's field: cells from off on. -/
structure PbR (w : World) (b off : Nat) (A : Option Addr) (c : Nat) (D : Option Addr) (d : Nat) : Prop where
  x0 : w.cell? ⟨b, off, none⟩ = some (.string ⟨#[65]⟩)
  x1 : w.cell? ⟨b, off + 1, none⟩ = some (.string pbTag)
  x2 : w.cell? ⟨b, off + 2, none⟩ = some (.bool false)
  x3 : w.cell? ⟨b, off + 3, none⟩ = some (.int .i64 2)
  x4 : w.cell? ⟨b, off + 4, none⟩ = some (.int .i64 64)
  x5 : w.cell? ⟨b, off + 5, none⟩ = some (.string ⟨#[]⟩)
  x6 : w.cell? ⟨b, off + 6, none⟩ = some (.slice A 0 c)
  x7 : w.cell? ⟨b, off + 7, none⟩ = some (.slice D 0 d)
theorem PbR.keep {w w' : World} {b off : Nat} {A : Option Addr} {c : Nat} {D : Option Addr} {d : Nat} (h : PbR w b off A c D d) (e : w'.heap[b]? = w.heap[b]?) : PbR w' b off A c D d :=
  ⟨(World.cell?_of_block e).trans h.x0, (World.cell?_of_block e).trans h.x1, (World.cell?_of_block e).trans h.x2, (World.cell?_of_block e).trans h.x3, (World.cell?_of_block e).trans h.x4, (World.cell?_of_block e).trans h.x5, (World.cell?_of_block e).trans h.x6, (World.cell?_of_block e).trans h.x7⟩
abbrev pbCs (A : Option Addr) (co b off cf : Nat) : Array Value := #[.int .i64 13, .int .i64 0, .string ⟨#[]⟩, .slice A 0 co, .slice (some ⟨b, off, none⟩) 1 cf]
abbrev pbIn (A : Option Addr) (c : Nat) (D : Option Addr) (d : Nat) : Array Value := #[.int .i64 2, .int .i64 64, .string ⟨#[]⟩, .slice A 0 c, .slice D 0 d]
abbrev pbRow (A : Option Addr) (c : Nat) (D : Option Addr) (d : Nat) : Obj := .cells #[.string ⟨#[65]⟩, .string pbTag, .bool false, .int .i64 2, .int .i64 64, .string ⟨#[]⟩, .slice A 0 c, .slice D 0 d] 32
set_option maxHeartbeats 3200000 in
set_option maxRecDepth 100000 in
theorem lists_pb {w : World} (x : Value) (A : Option Addr) (co b off cf dn : Nat) : Calls Tryz.prog 34 #[x, .agg (pbCs A co b off cf), .map (some dn)] w fun e w' => e = .returned (.bool false) ∧ Ext (fun _ => False) w w' := by
  go_enter Tryz.func34, Tryz.ntmps34
  go_wp2
  go_ret
  exact ⟨rfl, Ext.alloc _ _⟩
set_option maxHeartbeats 3200000 in
set_option maxRecDepth 100000 in
theorem loops_pb {w : World} (x : Value) (A : Option Addr) (co b off cf dn : Nat) {A1 D1 : Option Addr} {c1 d1 : Nat} (hR : PbR w b off A1 c1 D1 d1) : Calls Tryz.prog 33 #[x, .agg (pbCs A co b off cf), .map (some dn)] w fun e w' => e = .returned (.bool false) ∧ Ext (fun _ => False) w w' := by
  have hRl : b < w.heap.size := lt_cell hR.x0
  go_enter Tryz.func33, Tryz.ntmps33
  go_wp2_with fail
  go_loopg [56] 1 (fun gk s56 wx => ∃ j : Nat, s56 = .int .i64 j ∧ j ≤ 1 ∧ gk = 1 - j ∧ Ext (fun _ => False) w wx)
  case atStart => exact ⟨0, rfl, Nat.zero_le _, rfl, Ext.alloc _ _⟩
  case round =>
    obtain ⟨j, rfl, hj, rfl, hx⟩ := hrel
    by_cases hlt : j < 1
    · obtain rfl : j = 0 := by omega
      obtain ⟨x0, x1, x2, x3, x4, x5, x6, x7⟩ := hR.keep (hx.block b hRl (fun e => e))
      go_wp2_with fail
      go_roundg 0
      case measure => omega
      case rel => exact ⟨1, rfl, by omega, rfl, hx.trans (Ext.alloc _ _)⟩
    · obtain rfl : j = 1 := by omega
      go_wp2_with fail
      go_ret
      exact ⟨rfl, hx⟩
end Go.Proofs.YtnmgocbmofbppaaGreatDoor
namespace Go.Proofs.YtnmgocbmofbppaaGreatDoor
open Go.RowKit

/-- A counter. -/
structure Cb (w : World) (cb : Nat) (co : Nat) (L : Int) : Prop where
  c : w.cell? ⟨cb, co, none⟩ = some (.int .i64 L)
  f : w.frozen? ⟨cb, co, none⟩ = false
theorem Cb.lt {w : World} {cb : Nat} {co : Nat} {L : Int} (h : Cb w cb co L) : cb < w.heap.size := lt_cell h.c
theorem Cb.alloc {w : World} {cb : Nat} {co : Nat} {L : Int} (h : Cb w cb co L) (o : Obj) : Cb (w.alloc o) cb co L :=
  ⟨(World.cell?_of_block (Below.heap_alloc w o cb h.lt)).trans h.c, (World.frozen?_of_block (Below.heap_alloc w o cb h.lt)).trans h.f⟩
theorem Cb.keep {w w' : World} {cb : Nat} {co : Nat} {L : Int} (h : Cb w cb co L) (e : w'.heap[cb]? = w.heap[cb]?) : Cb w' cb co L :=
  ⟨(World.cell?_of_block e).trans h.c, (World.frozen?_of_block e).trans h.f⟩
theorem Cb.set_ {w : World} {cb : Nat} {co : Nat} {L : Int} (h : Cb w cb co L) (x : Int) : Cb (w.setCell ⟨cb, co, none⟩ (.int .i64 x)) cb co x :=
  ⟨World.cell?_setCell_same _ _ _ h.c, (World.frozen?_setCell ..).trans h.f⟩
set_option maxHeartbeats 3200000 in
set_option maxRecDepth 100000 in
theorem loops_in {w : World} {A1 D1 : Option Addr} {c1 d1 : Nat} (x : Value) (dn : Nat) : Calls Tryz.prog 33 #[x, .agg (pbIn A1 c1 D1 d1), .map (some dn)] w fun e w' => e = .returned (.bool false) ∧ Ext (fun _ => False) w w' := by
  go_enter Tryz.func33, Tryz.ntmps33
  go_wp2
  go_ret
  exact ⟨rfl, Ext.alloc _ _⟩
set_option maxHeartbeats 3200000 in
set_option maxRecDepth 100000 in
theorem ways_in {w : World} {A1 D1 : Option Addr} {c1 d1 : Nat} (x : Value) (cb : Nat) (L : Int) (hL : 10 ≤ L) (hM : L ≤ 1000000) (h : Cb w cb 0 L) : Calls Tryz.prog 35 #[x, .agg (pbIn A1 c1 D1 d1), .pointer (some ⟨cb, 0, none⟩)] w fun e w' => e = .returned (.bool true) ∧ Ext (· = cb) w w' ∧ Cb w' cb 0 (L - 1) := by
  have hcl := h.c
  have hnf := h.f
  have hlt0 := h.lt
  go_enter Tryz.func35, Tryz.ntmps35
  go_upto_region 1 with fail
  go_cut [11] (fun _ wx => Cb wx cb 0 (L - 1) ∧ Ext (· = cb) w wx ∧ Box5' wx w.heap.size (.int .i64 2) (.int .i64 64) (.string ⟨#[]⟩) (.slice A1 0 c1) (.slice D1 0 d1))
  case first =>
    go_wp2
    go_meet
    exact ⟨(h.set_ _).alloc _, (Ext.setCell (S := (· = cb)) w rfl _).trans (Ext.alloc _ _), Box5'.new' (by simp [World.setCell]) _ _ _ _ _ _⟩
  case rest =>
    obtain ⟨hc, hx, d0, d1, d2, d3, d4⟩ := hcut
    clear hcl hnf
    have hcl := hc.c
    have hlt1 := hc.lt
    have hd0 : decide (L - 1 < 0) = false := decide_eq_false (by omega)
    have hd1 : decide (L - 1 ≥ 0) = true := decide_eq_true (by omega)
    go_wp2
    go_ret
    exact ⟨by first | rfl | (simp; omega), hx, hc⟩
set_option maxHeartbeats 3200000 in
set_option maxRecDepth 100000 in
theorem ways_pb {w : World} (x : Value) (A : Option Addr) (co b off cf cb : Nat) (L : Int) (hL : 10 ≤ L) (hM : L ≤ 1000000) {A1 D1 : Option Addr} {c1 d1 : Nat} (hR : PbR w b off A1 c1 D1 d1) (hne : b ≠ cb) (h : Cb w cb 0 L) : Calls Tryz.prog 35 #[x, .agg (pbCs A co b off cf), .pointer (some ⟨cb, 0, none⟩)] w fun e w' => e = .returned (.bool true) ∧ Ext (· = cb) w w' ∧ Cb w' cb 0 (L - 2) := by
  have hcl := h.c
  have hnf := h.f
  have hlt0 := h.lt
  have hRl : b < w.heap.size := lt_cell hR.x0
  go_enter Tryz.func35, Tryz.ntmps35
  go_upto_region 1 with fail
  go_cut [11] (fun _ wx => Cb wx cb 0 (L - 1) ∧ Ext (· = cb) w wx ∧ Box5' wx w.heap.size (.int .i64 13) (.int .i64 0) (.string ⟨#[]⟩) (.slice A 0 co) (.slice (some ⟨b, off, none⟩) 1 cf))
  case first =>
    go_wp2
    go_meet
    exact ⟨(h.set_ _).alloc _, (Ext.setCell (S := (· = cb)) w rfl _).trans (Ext.alloc _ _), Box5'.new' (by simp [World.setCell]) _ _ _ _ _ _⟩
  case rest =>
    obtain ⟨hc, hx, d0, d1, d2, d3, d4⟩ := hcut
    clear hcl hnf
    have hcl := hc.c
    have hlt1 := hc.lt
    have hd0 : decide (L - 1 < 0) = false := decide_eq_false (by omega)
    go_wp2_with fail
    go_loopg [46] 1 (fun gk s46 wx => ∃ j : Nat, s46 = .int .i64 j ∧ j ≤ 1 ∧ gk = 1 - j ∧ Ext (· = cb) w wx ∧ Cb wx cb 0 (L - 1 - j))
    case atStart => exact ⟨0, rfl, Nat.zero_le _, rfl, hx, by simpa using hc⟩
    case round =>
      obtain ⟨j, rfl, hj, rfl, hx2, hc2⟩ := hrel
      clear hcl
      have hcl := hc2.c
      have hnf := hc2.f
      have hlt2 := hc2.lt
      by_cases hlt : j < 1
      · obtain rfl : j = 0 := by omega
        obtain ⟨x0, x1, x2, x3, x4, x5, x6, x7⟩ := hR.keep (hx2.block b hRl hne)
        have hc3 : Cb wr cb 0 (L - 1) := by simpa using hc2
        clear hcl
        have hcl := hc3.c
        have hlt2 := hc3.lt
        go_upto_region 13 with fail
        go_cut [] (fun wx => Cb wx cb 0 (L - 2) ∧ Ext (· = cb) w wx ∧ wx.cell? ⟨wr.heap.size, 2, none⟩ = some (.bool false))
        case first =>
          go_wp2
          go_meet
          rw [show L - 2 = L - 1 - 1 by omega]
          refine ⟨?_, ?_, ?_⟩
          · exact (hc3.set_ _).alloc _
          · exact hx2.trans ((Ext.setCell (S := (· = cb)) wr rfl _).trans (Ext.alloc _ _))
          · simp [World.setCell, go_sem]
        case rest =>
          obtain ⟨hc4, hx4, b2⟩ := hcut
          go_wp2_with fail
          go_roundg 0
          case measure => omega
          case rel => exact ⟨1, rfl, by omega, rfl, hx4, by rw [show L - 1 - ((1 : Nat) : Int) = L - 2 by omega]; exact hc4⟩
      · obtain rfl : j = 1 := by omega
        have hd1 : decide (L - 2 ≥ 0) = true := decide_eq_true (by omega)
        have hc3 : Cb wr cb 0 (L - 2) := by rw [show L - 2 = L - 1 - ((1 : Nat) : Int) by omega]; exact hc2
        clear hcl
        have hcl := hc3.c
        go_wp2_with fail
        go_ret
        exact ⟨by first | rfl | (simp; omega), hx2, hc3⟩
end Go.Proofs.YtnmgocbmofbppaaGreatDoor
namespace Go.Proofs.YtnmgocbmofbppaaGreatDoor
open Go.RowKit Go.Proofs

theorem letter_A {U : Lib.RTab} {B : Nat} {w : World} (hU : Uni U B w) (W : World) (hb : Below B w W) : Calls Tryz.prog 49 #[.int .i32 65] W fun e w' => e = .returned (.bool true) ∧ Below W.heap.size W w' := by
  obtain ⟨L, D, hL, hD, hU1, hT⟩ := hU
  have h := hT W hb
  refine (Tryz.unicode_IsLetter_any L 65 W (by omega) (by omega) h.1 h.2.1 hL).mono fun e w' k => ⟨?_, k.2⟩
  rw [k.1, if_pos (by decide)]
  rfl
theorem dec_A : Utf8.decode ⟨#[65]⟩ 0 = (65, 1) := by decide +kernel
set_option maxHeartbeats 1600000 in
set_option maxRecDepth 100000 in
theorem word_pb {U : Lib.RTab} {B : Nat} (w : World) (hB : B ≤ w.heap.size) (hU : Uni U B w) :
    Calls Tryz.prog 28 #[.string ⟨#[65]⟩] w fun e w' => e = .returned (.bool true) ∧ Below w.heap.size w w' := by
  have HU := Lib.hid hU
  clear hU
  go_enter Tryz.func28, Tryz.ntmps28
  go_upto_region 1 with fail
  go_cut [15] (fun s15 wx => s15 = .bool false ∧ w = wx)
  case first =>
    go_wp2
    all_goals go_meet
    all_goals exact ⟨rfl, rfl⟩
  case rest =>
    obtain ⟨rfl, rfl⟩ := hcut
    go_wp2
    go_loopw [18] (fun _ wr => ∃ pos, pos ≤ 1 ∧ wr.heap[w.heap.size]? = some (.stringIter ⟨#[65]⟩ pos) ∧ Below w.heap.size w wr) (fun _ wr => 1 - wr.iterPos w.heap.size)
    case atStart => exact ⟨0, by omega, by simpa using World.iter_heap w ⟨#[65]⟩ 0, (Below.refl _ _).alloc (Nat.le_refl _) _⟩
    case round =>
      obtain ⟨pos, hp1, hit, hbw⟩ := hrel
      have hsz : w.heap.size < wr.heap.size := (Array.getElem?_eq_some_iff.1 hit).1
      by_cases hp : pos < 1
      · obtain rfl : pos = 0 := by omega
        have hnx := fun ty => Lib.run_next_any_at (P := Tryz.prog) wr w.heap.size ⟨#[65]⟩ 0 ty hit (by decide)
        simp only [dec_A] at hnx
        have hit2 := Lib.iterAt_heap wr w.heap.size ⟨#[65]⟩ 0 (0 + 1) hit
        have hbw2 := Lib.below_iterAt hbw (k := w.heap.size) (Nat.le_refl _) ⟨#[65]⟩ (0 + 1)
        have HBW := Lib.hid hbw2
        have HIT := Lib.hid hit2
        have hsz2 : w.heap.size < (wr.iterAt w.heap.size ⟨#[65]⟩ (0 + 1)).heap.size := by rw [Lib.iterAt_size]; exact hsz
        clear hbw hbw2 hit2
        go_upto_region 6 with fail
        go_cut [41] (fun s41 wx => s41 = .bool false ∧ wx.heap[w.heap.size]? = some (.stringIter ⟨#[65]⟩ 1) ∧ Below w.heap.size w wx)
        case first =>
          generalize hW : wr.iterAt w.heap.size ⟨#[65]⟩ (0 + 1) = W at HIT HBW hsz2 ⊢
          go_wp2_with (go_at_call 49; refine (letter_A HU.out _ (HBW.out.mono hB)).mono ?_; rintro e w2 ⟨rfl, hb2⟩; have HIT2 := Lib.hid ((hb2.block _ hsz2).trans HIT.out); have HB2 := Lib.hid (HBW.out.trans (hb2.mono (by omega))); clear hb2)
          all_goals go_meet
          all_goals exact ⟨rfl, HIT2.out, HB2.out⟩
        case rest =>
          obtain ⟨rfl, h1, h2⟩ := hcut
          have HBW := Lib.hid h2
          clear h2
          go_wp2
          go_roundw
          case rel => exact ⟨1, by omega, h1, HBW.out⟩
          case measure =>
            simp only [World.iterPos, h1, hit]
            omega
      · obtain rfl : pos = 1 := by omega
        have hnx : ∀ ty, (Instr.next (.pointer (some ⟨w.heap.size, 0, none⟩)) true ty).run Tryz.prog wr = _ := fun ty => Lib.run_next_end_at wr w.heap.size ⟨#[65]⟩ 1 ty hit (by decide)
        go_wp2
        go_ret
        exact ⟨rfl, hbw⟩
set_option maxHeartbeats 1600000 in
theorem number_64 (s : ByteArray) (w : World) :
    Calls Tryz.prog 52 #[.int .i64 64, .agg #[.int .u8 2, .int .u8 3, .int .u8 4, .int .u8 5], .string ⟨#[105, 110, 116]⟩] w fun e w' => ∃ b, e = .returned (.tuple #[.pointer (some ⟨b, 0, none⟩), .bool true]) ∧ RT w' (fun k => w.heap.size ≤ k ∧ k < w'.heap.size) (fun _ => none) (.mk 2 64 s [] []) b ∧ Below w.heap.size w w' := by
  go_enter Tryz.func52, Tryz.ntmps52
  go_wp2_with (go_at_call 51; refine (Basic_any _ _ _).mono ?_; rintro e w1 ⟨rfl, rfl⟩)
  go_ret2
  refine ⟨_, rfl, leaf_new (by simp) (by decide) (by decide) (by decide) (by decide) (by decide) ⟨by omega, by simp⟩ (by decide), ?_⟩
  exact ((Below.refl _ _).alloc (Nat.le_refl _) _).alloc (by simp) _
/-- It succeeds. -/
def OkEnd (e : Ending) : Prop := ∃ p : Value, e = .returned (.tuple #[p, .bool true])
theorem OkEnd.true_ {p : Value} {r : Bool} (h : OkEnd (.returned (.tuple #[p, .bool r]))) : r = true := by
  obtain ⟨p', h⟩ := h
  simp at h
  exact h.2
set_option maxHeartbeats 1600000 in
set_option maxRecDepth 100000 in
theorem make_int_s {U : Lib.RTab} {B bk mn mm : Nat} {env : AL Ty} (w : World) (am : Am) (left deep : Int) (cs : List Value) (hl : 90000 ≤ left) (hl6 : left ≤ 1000000) (hd0 : 0 ≤ deep) (hd1 : deep ≤ 100) (h : MPre w B bk mn mm env am left) (T : Ty) (hTT : T = pbInt) (hT : TyV w (· < B) T cs) :
    Calls Tryz.prog 30 #[.pointer (some ⟨bk, 0, none⟩), .agg cs.toArray, .int .i64 deep] w fun e w' => MakePost w B bk mn mm env am left 145 T e w' ∧ OkEnd e := by
  subst hTT
  obtain ⟨A, co, D, cf, rfl, hbig, hof, hfs⟩ := hT
  have c2 := h.c2
  have nf := h.nf
  have hlt := h.hlt
  have hmt := h.ltm
  have H := Lib.hid h
  clear h hof hfs hbig
  go_enter Tryz.func30, Tryz.ntmps30
  go_upto_region 1 with fail
  go_cut [] (fun wx => MStep (fun k => k = bk ∨ k = mm) w wx B bk mn mm env am am (left - 1) ∧ Box5' wx w.heap.size (.int .i64 2) (.int .i64 64) (.string ⟨#[]⟩) (.slice A 0 co) (.slice D 0 cf) ∧ w.heap.size < wx.heap.size)
  case first =>
    go_wp2
    go_meet
    exact ⟨⟨(H.out.set_ _).alloc _, fun _ _ e => e, fun s b e1 e2 => by simp [e1] at e2, (Ext.setCell (S := fun k => k = bk ∨ k = mm) w (a := ⟨bk, 2, none⟩) (.inl rfl) _).trans (Ext.alloc _ _)⟩, Box5'.new' (by simp [World.setCell]) _ _ _ _ _ _, by simp [World.setCell]⟩
  case rest =>
    obtain ⟨hm, ⟨d0, d1, d2, d3, d4⟩, hs⟩ := hcut
    clear c2 nf
    have c2 := hm.pre.c2
    have HM := Lib.hid hm
    clear hm
    have hdp : decide (100 < deep) = false := decide_eq_false (by omega)
    have hll : decide (left - 1 < 0) = false := decide_eq_false (by omega)
    go_wp2_with fail
    go_loopw [83] (fun i wr => i = .int .i64 0 ∧ wc = wr) (fun _ _ => 0)
    case atStart => exact ⟨rfl, rfl⟩
    case round =>
      obtain ⟨rfl, rfl⟩ := hrel
      go_wp2_with (go_at_call 52; refine (number_64 ⟨#[]⟩ _).mono ?_; rintro e w1 ⟨b, rfl, hrt, hb⟩; have HB := Lib.hid hb; have HRT := Lib.hid hrt; clear hb hrt)
      go_ret2
      exact ⟨MakePost.leaf rfl HM.out HB.out (by omega) (by omega) (by omega) HRT.out, _, rfl⟩
end Go.Proofs.YtnmgocbmofbppaaGreatDoor
