/- Token: a text, an end tag, the end. Token: the end; a start tag. Token: a start tag. impl: read, fault at the end; InputOffset, InputPos. impl: fault at the end; token. impl: token of a start tag. -/
import Derived.Test.YthhmnnojgjpibaaGreatDoorA17
import Derived.LaidEql

set_option linter.unusedVariables false
set_option linter.unusedSimpArgs false

namespace Go.Proofs.YthhmnnojgjpibaaGreatDoor
open Go Go.RowKit Go.Lib

attribute [local go_sem ↓] Go.wp_at_zero Go.wp_at_succ
abbrev zero96 : Value := .agg #[.string ⟨#[]⟩, .string ⟨#[]⟩, .slice none 0 0]
abbrev zero100 : Value := .agg #[.string ⟨#[]⟩, .string ⟨#[]⟩]
theorem ta_text96 (x : Value) (W : World) : (Instr.typeAssert (.iface 101 x) 52 96 true).run Tryz.prog W = .ok (.tuple #[zero96, .bool false]) W := by kernel_rfl
theorem ta_text100 (x : Value) (W : World) : (Instr.typeAssert (.iface 101 x) 52 100 true).run Tryz.prog W = .ok (.tuple #[zero100, .bool false]) W := by kernel_rfl
theorem ta_end96 (x : Value) (W : World) : (Instr.typeAssert (.iface 100 x) 52 96 true).run Tryz.prog W = .ok (.tuple #[zero96, .bool false]) W := by kernel_rfl
theorem ta_end100 (x : Value) (W : World) : (Instr.typeAssert (.iface 100 x) 52 100 true).run Tryz.prog W = .ok (.tuple #[x, .bool true]) W := by kernel_rfl
theorem ta_start96 (x : Value) (W : World) : (Instr.typeAssert (.iface 96 x) 52 96 true).run Tryz.prog W = .ok (.tuple #[x, .bool true]) W := by kernel_rfl
/-- The one element on the stack. -/
abbrev stkO : Obj := .cells #[.pointer none, .int .i64 0, .string ⟨#[]⟩, .string ⟨#[97]⟩, .bool false] 114
section
variable {I : Ids} {F0 Fp : Nat → Prop} {w0 : World} {B : Nat → Option Value} {bs r v : List UInt8} {fr : Bool} {w : World} {B0 s m clock : Nat}
set_option maxHeartbeats 8000000 in
set_option maxRecDepth 100000 in
theorem token_text (hI : IdOk I) (hB : BOk I B) (h : DS I Fp B bs (esc v ++ 60 :: r) fr w) (hv : v.length ≤ 1000) (hg : Good v) (hne : v ≠ []) (hF : ∀ k, Fp k → B0 ≤ k) (hz : B0 ≤ w.heap.size) (hT : U8 B0 w)
    (h11 : B 11 = some (.pointer (some ⟨s, 0, none⟩))) (hk : Kp w Fp s stkO) :
    Calls Tryz.prog 20 #[.pointer (some ⟨I.dd, 0, none⟩)] w fun e w' => ∃ g c, e = .returned (.tuple #[.iface 101 (.slice (some ⟨g, 0, none⟩) v.length c), .nilIface]) ∧ Rds v g c w' ∧ ∃ Fp', DS I Fp' B v (60 :: r) false w' ∧ Stp Fp Fp' w w' := by
  have c11 := (h.cellB 11 (by omega) (by omega)).trans h11
  have c17 := (h.cellB 17 (by omega) (by omega)).trans hB.nt
  have s1 : w.cell? ⟨s, 1, none⟩ = some (.int .i64 0) := hk.cell 1
  have HD := Lib.hid h
  have HB := Lib.hid hB
  have HGD := Lib.hid hg
  have HNV := Lib.hid hne
  have HF := Lib.hid hF
  have HT := Lib.hid hT
  clear h hB hg hne hF hT hk
  have t1 := ta_text96
  have t2 := ta_text100
  have t3 := ta_end96
  have t4 := ta_end100
  go_enter Tryz.func20, Tryz.ntmps20
  go_wp2_with (go_at_call 25; refine (raw_text hI HB.out HD.out hv HGD.out HNV.out HF.out hz HT.out).mono ?_; rintro e w1 ⟨g, c, rfl, hR, Fp1, h1, e1⟩; have c0 := (h1.cellB 0 (by omega) (by omega)).trans HB.out.strict; have HR := Lib.hid hR; have HD1 := Lib.hid h1; have HS1 := Lib.hid e1; clear hR h1 e1)
  go_ret2
  exact ⟨g, c, rfl, HR.out, Fp1, HD1.out, HS1.out⟩
set_option maxHeartbeats 8000000 in
set_option maxRecDepth 100000 in
theorem token_close (hI : IdOk I) (hB : BOk I B) (h : DS I Fp B bs (60 :: 47 :: 97 :: 62 :: r) fr w) (hs : Stp F0 Fp w0 w) (hs0 : F0 s ∨ w0.heap.size ≤ s)
    (h11 : B 11 = some (.pointer (some ⟨s, 0, none⟩))) (h12 : B 12 = some (.int .i64 1)) (h13 : B 13 = some (.pointer none)) (h19 : B 19 = some (.map (some m))) (hk : Kp w Fp s stkO) (hm : Kp w Fp m (.map #[] clock)) :
    Calls Tryz.prog 20 #[.pointer (some ⟨I.dd, 0, none⟩)] w fun e w' => e = .returned (.tuple #[.iface 100 (.agg #[.string ⟨#[]⟩, .string ⟨#[97]⟩]), .nilIface]) ∧ ∃ Fp' bs', DS I Fp' (popB B s) bs' r true w' ∧ Stp F0 Fp' w0 w' := by
  have c11 := (h.cellB 11 (by omega) (by omega)).trans h11
  have c17 := (h.cellB 17 (by omega) (by omega)).trans hB.nt
  have s1 : w.cell? ⟨s, 1, none⟩ = some (.int .i64 0) := hk.cell 1
  have HD := Lib.hid h
  have HB := Lib.hid hB
  have HS := Lib.hid hs
  have HK := Lib.hid hk
  have HM := Lib.hid hm
  clear h hB hs hk hm
  have t1 := ta_text96
  have t2 := ta_text100
  have t3 := ta_end96
  have t4 := ta_end100
  go_enter Tryz.func20, Tryz.ntmps20
  go_wp2_with (first | (go_at_call 31; refine (popElement_ok HB.out (HD1.out.alloc _) (HS1.out.alloc _) hs0 HS1.out.1.size h11 h12 h13 h19 (HK1.out.alloc _) (Kp.new_ w1 HD1.out.lt _) (HM1.out.alloc _)).mono ?_; rintro e w2 ⟨rfl, h2, e2, hk2, _⟩; have k0 : w2.cell? ⟨w1.heap.size, 0, none⟩ = some (.string ⟨#[]⟩) := hk2.cell 0; have k1 : w2.cell? ⟨w1.heap.size, 1, none⟩ = some (.string ⟨#[97]⟩) := hk2.cell 1; have HD2 := Lib.hid h2; have HS2 := Lib.hid e2; clear hk2 h2 e2) | (go_at_call 25; refine (raw_close hI HB.out HD.out).mono ?_; rintro e w1 ⟨rfl, Fp1, bs1, h1, e1⟩; have c0 := (h1.cellB 0 (by omega) (by omega)).trans HB.out.strict; have HD1 := Lib.hid h1; have HS1 := Lib.hid (HS.out.trans e1); have HK1 := Lib.hid (HK.out.step e1); have HM1 := Lib.hid (HM.out.step e1); clear h1 e1))
  go_ret2
  exact ⟨rfl, Fp1, bs1, HD2.out, HS2.out⟩
end

end Go.Proofs.YthhmnnojgjpibaaGreatDoor
namespace Go.Proofs.YthhmnnojgjpibaaGreatDoor
open Go Go.RowKit Go.Lib

attribute [local go_sem ↓] Go.wp_at_zero Go.wp_at_succ
theorem info_comp {t : TypeId} (h : (Tryz.prog.info? t).map (fun i => i.comparable) = some true) : ∃ i, Tryz.prog.info? t = some i ∧ i.comparable = true := by
  cases hi : Tryz.prog.info? t with
  | none => rw [hi] at h; cases h
  | some i => rw [hi] at h; exact ⟨i, rfl, by simpa using h⟩
theorem info_some {t : TypeId} (h : (Tryz.prog.info? t).isSome = true) : ∃ i, Tryz.prog.info? t = some i := Option.isSome_iff_exists.1 h
theorem err_same (a : Addr) (W : World) : (binOp .eql 45 (.iface 177 (.pointer (some a))) (.iface 177 (.pointer (some a)))).run Tryz.prog W = .ok (.bool true) W := by
  obtain ⟨i, hi, hc⟩ := info_comp (t := 177) (by kernel_rfl)
  obtain ⟨j, hj⟩ := info_some (t := 179) (by kernel_rfl)
  exact run_eql_iface_ptr_same W a Tryz.underlying45 Tryz.underlying177 hi hc hj
section
variable {I : Ids} {F0 Fp : Nat → Prop} {w0 : World} {B : Nat → Option Value} {bs r v : List UInt8} {fr : Bool} {w : World} {B0 s m clock : Nat}
set_option maxHeartbeats 8000000 in
set_option maxRecDepth 100000 in
theorem token_eof {nb line lst off : Int} {ev : Value} (hI : IdOk I) (hB : BOk I B) (hev : EofV ev w) (hd0 : ¬ Fp 0) (h : DSf I Fp ⟨B, nb, .nilIface, line, lst, off⟩ bs [] true w) (h11 : B 11 = some (.pointer none)) :
    Calls Tryz.prog 20 #[.pointer (some ⟨I.dd, 0, none⟩)] w fun e w' => e = .returned (.tuple #[.nilIface, ev]) ∧ (∃ line lst off : Int, DSf I Fp ⟨B, -1, ev, line, lst, off⟩ bs [] true w') ∧ Ext Fp w w' := by
  have hds : DS I Fp B bs [] true w := ⟨_, _, _, _, h⟩
  have c11 := (hds.cellB 11 (by omega) (by omega)).trans h11
  have c17 := (hds.cellB 17 (by omega) (by omega)).trans hB.nt
  obtain ⟨a, rfl⟩ := hev.2
  have h0 : 0 < w.heap.size := lt_of_cell hev.1
  have hq := err_same a
  have HD := Lib.hid h
  have HB := Lib.hid hB
  have HV := Lib.hid hev
  clear h hB hds hev
  go_enter Tryz.func20, Tryz.ntmps20
  go_wp2_with (go_at_call 25; refine (raw_eof hI HB.out HV.out HD.out).mono ?_; rintro e w1 ⟨rfl, ⟨line1, lst1, off1, h1⟩, e1⟩; have g0 := (HV.out.keep (e1.block 0 h0 hd0)).1; have k11 : w1.cell? ⟨I.dd, 11, none⟩ = some (.pointer none) := (h1.cell 11 (by omega)).trans h11; have HC1 := Lib.hid h1; have HT1 := Lib.hid e1; clear h1 e1)
  go_ret2
  exact ⟨rfl, ⟨_, _, _, HC1.out⟩, HT1.out⟩
end

end Go.Proofs.YthhmnnojgjpibaaGreatDoor
namespace Go.Proofs.YthhmnnojgjpibaaGreatDoor
open Go Go.RowKit Go.Lib

attribute [local go_sem ↓] Go.wp_at_zero Go.wp_at_succ
theorem atC_at {ats : List At} {i : Nat} {x t0 : UInt8} {v : List UInt8} (h : ats[i]? = some (x, t0, v)) : (ats.flatMap atC)[i * 3]? = some (.string ⟨#[]⟩) ∧ (ats.flatMap atC)[i * 3 + 1]? = some (.string ⟨#[x]⟩) ∧ (ats.flatMap atC)[i * 3 + 2]? = some (.string ⟨v.toArray⟩) := by
  induction ats generalizing i with
  | nil => cases h
  | cons a ats ih =>
    cases i with
    | zero =>
      obtain rfl : a = (x, t0, v) := by simpa using h
      exact ⟨rfl, rfl, rfl⟩
    | succ i =>
      have := ih (i := i) (by simpa using h)
      have e : ∀ j, ((a :: ats).flatMap atC)[(i + 1) * 3 + j]? = (ats.flatMap atC)[i * 3 + j]? := fun j => by
        rw [List.flatMap_cons, List.getElem?_append_right (by simp [atC]; omega)]
        congr 1
        simp [atC]; omega
      exact ⟨(e 0).trans this.1, (e 1).trans this.2.1, (e 2).trans this.2.2⟩
/-- The cells of an attribute that is read. -/
theorem Row.at_ {w : World} {Fp : Nat → Prop} {b : Nat} {ats : List At} {A : Option Addr} {c : Nat} (h : Row w Fp b 98 3 (.slice A ats.length c) ats.length (ats.flatMap atC)) (hne : 0 < ats.length) : ∃ g, A = some ⟨g, 0, none⟩ ∧ ats.length ≤ c ∧ ¬ Fp g ∧ ∀ i x t0 v, ats[i]? = some (x, t0, v) →
    w.cell? ⟨g, i * 3, none⟩ = some (.string ⟨#[]⟩) ∧ w.cell? ⟨g, i * 3 + 1, none⟩ = some (.string ⟨#[x]⟩) ∧ w.cell? ⟨g, i * 3 + 2, none⟩ = some (.string ⟨v.toArray⟩) := by
  have hc := fun g => h.1.cells (g := g)
  rcases h.1.2 with ⟨h1, h2⟩ | ⟨g, cap, cur, h1, h2, h3, h4, _⟩
  · omega
  · simp only [Value.slice.injEq] at h1
    obtain ⟨rfl, _, rfl⟩ := h1
    refine ⟨g, rfl, h4, h.2 g rfl, fun i x t0 v hi => ?_⟩
    obtain ⟨k0, k1, k2⟩ := atC_at hi
    have e : ∀ j, (⟨g, 0, none⟩ : Addr).add j = ⟨g, j, none⟩ := fun j => by unfold Addr.add; split <;> simp_all
    exact ⟨by rw [← e]; exact hc g rfl _ _ k0, by rw [← e]; exact hc g rfl _ _ k1, by rw [← e]; exact hc g rfl _ _ k2⟩
section
variable {I : Ids} {F0 Fp : Nat → Prop} {w0 : World} {B : Nat → Option Value} {bs r v : List UInt8} {fr : Bool} {w : World} {B0 s m clock : Nat} {ats : List At}
set_option maxHeartbeats 8000000 in
set_option maxRecDepth 100000 in
theorem token_start (hI : IdOk I) (hB : BOk I B) (hA : ∀ a ∈ ats, AtR a) (hl : ats.length ≤ 100) (h : DS I Fp B bs (60 :: 97 :: (ats.flatMap atB ++ 62 :: r)) fr w) (hF : ∀ k, Fp k → B0 ≤ k) (hz : B0 ≤ w.heap.size) (hT : U8 B0 w)
    (h11 : B 11 = some (.pointer none)) (h12 : B 12 = some (.int .i64 0)) (h13 : B 13 = some (.pointer none)) (h19 : B 19 = some (.map (some m))) (hm : Kp w Fp m (.map #[] clock)) :
    Calls Tryz.prog 20 #[.pointer (some ⟨I.dd, 0, none⟩)] w fun e w' => ∃ v s, e = .returned (.tuple #[.iface 96 (.agg #[.string ⟨#[]⟩, .string ⟨#[97]⟩, v]), .nilIface]) ∧ w.heap.size ≤ s ∧ ∃ Fp' bs', DS I Fp' (upd (upd B 12 (.int .i64 1)) 11 (.pointer (some ⟨s, 0, none⟩))) bs' r true w' ∧ Stp Fp Fp' w w' ∧ Kp w' Fp' s stkO ∧ Kp w' Fp' m (.map #[] clock) ∧ Row w' Fp' w.heap.size 98 3 v ats.length (ats.flatMap atC) := by
  have c11 := (h.cellB 11 (by omega) (by omega)).trans h11
  have c17 := (h.cellB 17 (by omega) (by omega)).trans hB.nt
  have HD := Lib.hid h
  have HB := Lib.hid hB
  have HA := Lib.hid hA
  have HF := Lib.hid hF
  have HT := Lib.hid hT
  have HM := Lib.hid hm
  clear h hB hA hF hT hm
  have t1 := ta_start96
  go_enter Tryz.func20, Tryz.ntmps20
  go_wp2_with (go_at_call 25; refine (raw_start hI HB.out HA.out hl HD.out HF.out hz HT.out).mono ?_; rintro e w1 ⟨v, rfl, Fp1, bs1, h1, e1, hr1⟩; obtain ⟨A1, k1, rfl⟩ := hr1.form; have c0 := (h1.cellB 0 (by omega) (by omega)).trans HB.out.strict; have HD1 := Lib.hid h1; have HS1 := Lib.hid e1; have HM1 := Lib.hid (HM.out.step e1); have HR1 := Lib.hid hr1; clear h1 e1 hr1)
  have hT1 := Kp.new_ w1 HD1.out.lt (.cells #[.string ⟨#[]⟩, .string ⟨#[97]⟩, .slice A1 ats.length k1] 96)
  obtain ⟨T, hTe⟩ : ∃ T, T = w1.heap.size := ⟨_, rfl⟩
  rw [← hTe] at hT1 ⊢
  have HT1 := Lib.hid hT1
  have hTw : w.heap.size ≤ T := hTe ▸ HS1.out.1.size
  clear hT1 hTe c0 c11 c17
  go_loopg [103] ats.length (fun gk s103 wx => ∃ i : Nat, i ≤ ats.length ∧ gk = ats.length - i ∧ s103 = .int .i64 (i : Int) ∧ DS I Fp1 B bs1 r true wx ∧ Stp Fp Fp1 w wx ∧ Kp wx Fp1 m (.map #[] clock) ∧ Row wx Fp1 w.heap.size 98 3 (.slice A1 ats.length k1) ats.length (ats.flatMap atC) ∧ Kp wx Fp1 T (.cells #[.string ⟨#[]⟩, .string ⟨#[97]⟩, .slice A1 ats.length k1] 96))
  case atStart => exact ⟨0, Nat.zero_le _, rfl, rfl, HD1.out.alloc _, HS1.out.alloc _, HM1.out.alloc _, HR1.out.alloc _, HT1.out⟩
  case round =>
    obtain ⟨i, hi, rfl, rfl, hd, hs, hm, hr, ht⟩ := hrel
    by_cases hlt : i < ats.length
    · obtain ⟨⟨x, t0, v⟩, ha⟩ : ∃ a, ats[i]? = some a := ⟨_, List.getElem?_eq_getElem hlt⟩
      obtain ⟨g, rfl, hgc, hng, hcells⟩ := hr.at_ (by omega)
      obtain ⟨k0, k1', k2⟩ := hcells _ _ _ _ ha
      have hx : Abc x := (HA.out _ (List.mem_of_getElem? ha)).1
      have hi1 : (0 : Int) ≤ (i : Int) := by omega
      have hi2 : (i : Int) < (ats.length : Int) := by omega
      have HFF := Lib.hid (⟨hd, hs, hm, hr, ht⟩ : _ ∧ _ ∧ _ ∧ _ ∧ _)
      clear hd hs hm hr ht hcells
      rcases hx with rfl | rfl | rfl
      all_goals
        go_wp2
        go_roundg (ats.length - (i + 1))
        case measure => omega
        case rel => exact ⟨i + 1, hlt, rfl, by simp, HFF.out.1.alloc _, HFF.out.2.1.alloc _, HFF.out.2.2.1.alloc _, HFF.out.2.2.2.1.alloc _, HFF.out.2.2.2.2.alloc _⟩
    · obtain rfl : i = ats.length := by omega
      have HD2 := Lib.hid hd
      have HS2 := Lib.hid hs
      have HM2 := Lib.hid hm
      have HR2 := Lib.hid hr
      have HT2 := Lib.hid ht
      clear hd hs hm hr ht
      have x0 : wr.cell? ⟨T, 0, none⟩ = some (.string ⟨#[]⟩) := HT2.out.cell 0
      have x1 : wr.cell? ⟨T, 1, none⟩ = some (.string ⟨#[97]⟩) := HT2.out.cell 1
      clear HD1 HS1 HM1 HR1 HT1
      go_wp2_with (go_at_call 29; refine (pushElement_ok HD2.out h11 h12 h13).mono ?_; rintro e w3 ⟨rfl, s, hs3, hd3, e3, hk3⟩; refine Hid.out ?_)
      refine Lib.hid ?_
      have hm3 := HM2.out.step e3
      have hr3 := HR2.out.step e3
      have ht3 := HT2.out.step e3
      have hS3 := HS2.out.trans e3
      have y0 : w3.cell? ⟨T, 0, none⟩ = some (.string ⟨#[]⟩) := ht3.cell 0
      have y1 : w3.cell? ⟨T, 1, none⟩ = some (.string ⟨#[97]⟩) := ht3.cell 1
      have d19 : w3.cell? ⟨I.dd, 19, none⟩ = some (.map (some m)) := (hd3.cellB 19 (by omega) (by omega)).trans (by rw [upd_other _ _ (by decide), upd_other _ _ (by decide)]; exact h19)
      have d4 : w3.cell? ⟨I.dd, 4, none⟩ = some (.string ⟨#[]⟩) := (hd3.cellB 4 (by omega) (by omega)).trans (by rw [upd_other _ _ (by decide), upd_other _ _ (by decide)]; exact HB.out.dsp)
      have HTR := Lib.hid (tr_elem I.dd T m clock w3 y0 y1 (ht3.frozen 0) d19 d4 hm3.2)
      have hmT : m ≠ T := by
        rintro rfl
        have := ht3.2.symm.trans hm3.2
        simp at this
      have hsT : s ≠ T := by
        have := HT2.out.lt
        omega
      have HS4 := Lib.hid (hS3.new_ (i := 0) hTw (.string ⟨#[]⟩))
      have HD4 := Lib.hid (hd3.far (i := 0) ht3.1 (.string ⟨#[]⟩))
      have HM4 := Lib.hid (hm3.far (i := 0) hmT (.string ⟨#[]⟩))
      have HK4 := Lib.hid (hk3.far (i := 0) hsT (.string ⟨#[]⟩))
      have HR4 := Lib.hid (hr3.far (i := 0) (hr3.other ht3.2 (by decide)) (.string ⟨#[]⟩))
      have HT4 := Lib.hid (ht3.set_ 0 (.string ⟨#[]⟩))
      have hws : w.heap.size ≤ s := Nat.le_trans HS2.out.1.size hs3
      clear hm3 hr3 ht3 hS3 hd3 hk3 e3 x0 x1 y0 y1 d19 d4 HD2 HS2 HM2 HR2 HT2
      go_wp2_with (go_at_call 30; refine HTR.out.mono ?_; rintro e w5 ⟨rfl, n5, q5⟩; have HF5 := Lib.hid (⟨q5 ▸ HD4.out.drewN _, q5 ▸ HS4.out.drewN _, q5 ▸ HM4.out, q5 ▸ HK4.out, q5 ▸ HR4.out, q5 ▸ HT4.out⟩ : DS I Fp1 (upd (upd B 12 (.int .i64 1)) 11 (.pointer (some ⟨s, 0, none⟩))) bs1 r true w5 ∧ Stp Fp Fp1 w w5 ∧ Kp w5 Fp1 m (.map #[] clock) ∧ Kp w5 Fp1 s stkO ∧ Row w5 Fp1 w.heap.size 98 3 (.slice A1 ats.length k1) ats.length (ats.flatMap atC) ∧ Kp w5 Fp1 T (.cells #[.string ⟨#[]⟩, .string ⟨#[97]⟩, .slice A1 ats.length k1] 96)); clear q5; have z2 : w5.cell? ⟨T, 2, none⟩ = some (.slice A1 ats.length k1) := HF5.out.2.2.2.2.2.cell 2)
      go_loopg [177] ats.length (fun gk s177 wx => ∃ i : Nat, i ≤ ats.length ∧ gk = ats.length - i ∧ s177 = .int .i64 (i : Int) ∧ w5 = wx)
      case atStart => exact ⟨0, Nat.zero_le _, rfl, rfl, rfl⟩
      case round =>
        obtain ⟨i, hi, rfl, rfl, rfl⟩ := hrel
        by_cases hlt : i < ats.length
        · obtain ⟨⟨x, t0, v⟩, ha⟩ : ∃ a, ats[i]? = some a := ⟨_, List.getElem?_eq_getElem hlt⟩
          obtain ⟨g, rfl, hgc, hng, hcells⟩ := HF5.out.2.2.2.2.1.at_ (by omega)
          obtain ⟨k0, _, _⟩ := hcells _ _ _ _ ha
          have hi1 : (0 : Int) ≤ (i : Int) := by omega
          have hi2 : (i : Int) < (ats.length : Int) := by omega
          clear hcells
          go_wp2_with (go_at_call 30; refine (tr_attr I.dd g (i * 3) _ k0).mono ?_; rintro e w9 ⟨rfl, rfl⟩)
          go_roundg (ats.length - (i + 1))
          case measure => omega
          case rel => exact ⟨i + 1, hlt, rfl, by simp, rfl⟩
        · obtain rfl : i = ats.length := by omega
          have z0 : w5.cell? ⟨T, 0, none⟩ = some (.string ⟨#[]⟩) := HF5.out.2.2.2.2.2.cell 0
          have z1 : w5.cell? ⟨T, 1, none⟩ = some (.string ⟨#[97]⟩) := HF5.out.2.2.2.2.2.cell 1
          go_wp2
          go_ret2
          exact ⟨_, s, rfl, hws, Fp1, bs1, HF5.out.1, HF5.out.2.1, HF5.out.2.2.2.1, HF5.out.2.2.1, HF5.out.2.2.2.2.1⟩
end

end Go.Proofs.YthhmnnojgjpibaaGreatDoor
namespace Go.Proofs.YthhmnnojgjpibaaGreatDoor
open Go Go.RowKit Go.Lib

attribute [local go_sem ↓] Go.wp_at_zero Go.wp_at_succ
set_option maxHeartbeats 2000000 in
theorem read_any {d : Nat} {w : World} {Q : Value → Value → World → Prop} (h : Calls Tryz.prog 20 #[.pointer (some ⟨d, 0, none⟩)] w fun e w' => ∃ a b, e = .returned (.tuple #[a, b]) ∧ Q a b w') :
    Calls Tryz.prog 11 #[.pointer (some ⟨d, 0, none⟩), .bool false] w fun e w' => ∃ a b, e = .returned (.tuple #[a, b]) ∧ Q a b w' := by
  have H := Lib.hid h
  clear h
  go_enter Tryz.func11, Tryz.ntmps11
  go_wp2_with (go_at_call 20; refine H.out.mono ?_; rintro e w1 ⟨a, b, rfl, hq⟩; have HQ := Lib.hid hq; clear hq)
  go_ret2
  exact ⟨a, b, rfl, HQ.out⟩
set_option maxHeartbeats 2000000 in
theorem inputOffset_ok {d : Nat} {x : Int} {w : World} (h : w.cell? ⟨d, 23, none⟩ = some (.int .i64 x)) :
    Calls Tryz.prog 14 #[.pointer (some ⟨d, 0, none⟩)] w fun e w' => e = .returned (.int .i64 x) ∧ w = w' := by
  go_enter Tryz.func14, Tryz.ntmps14
  go_wp2
  go_ret
  exact ⟨rfl, rfl⟩
set_option maxHeartbeats 2000000 in
theorem inputPos_ok {d : Nat} {x y z : Int} {w : World} (h : w.cell? ⟨d, 21, none⟩ = some (.int .i64 x)) (h2 : w.cell? ⟨d, 22, none⟩ = some (.int .i64 y)) (h3 : w.cell? ⟨d, 23, none⟩ = some (.int .i64 z)) :
    Calls Tryz.prog 15 #[.pointer (some ⟨d, 0, none⟩)] w fun e w' => ∃ a b : Int, e = .returned (.tuple #[.int .i64 a, .int .i64 b]) ∧ ∃ n, w' = w.drewN n := by
  go_enter Tryz.func15, Tryz.ntmps15
  go_wp2
  go_quiet (fail)
  go_wp2
  go_ret2
  exact ⟨_, _, rfl, _, rfl⟩
theorem fa_no (t : TypeId) (z x : Value) (ht : t = 81 ∧ z = .pointer none ∨ t = 84 ∧ z = .string ⟨#[]⟩ ∨ t = 85 ∧ z = .pointer none ∨ t = 89 ∧ z = .pointer none ∨ t = 92 ∧ z = .pointer none ∨ t = 93 ∧ z = .pointer none) (W : World) : (Instr.typeAssert (.iface 177 x) 45 t true).run Tryz.prog W = .ok (.tuple #[z, .bool false]) W := by
  rcases ht with ⟨rfl, rfl⟩ | ⟨rfl, rfl⟩ | ⟨rfl, rfl⟩ | ⟨rfl, rfl⟩ | ⟨rfl, rfl⟩ | ⟨rfl, rfl⟩
  · kernel_rfl
  · kernel_rfl
  · kernel_rfl
  · kernel_rfl
  · kernel_rfl
  · kernel_rfl

end Go.Proofs.YthhmnnojgjpibaaGreatDoor
namespace Go.Proofs.YthhmnnojgjpibaaGreatDoor
open Go Go.RowKit Go.Lib

attribute [local go_sem ↓] Go.wp_at_zero Go.wp_at_succ
theorem Below.alloc1 (w : World) (o : Obj) : Below w.heap.size w (w.alloc o) := ⟨rfl, rfl, rfl, by simp, fun k hk => Below.heap_alloc w o k hk⟩
theorem ta_text101 (x : Value) (W : World) : (Instr.typeAssert (.iface 101 x) 52 101 true).run Tryz.prog W = .ok (.tuple #[x, .bool true]) W := by kernel_rfl
/-- The text of a token. -/
theorem Rds.conv101 {l : List UInt8} {g c : Nat} {w : World} (h : Rds l g c w) : (convert 101 9 (.slice (some ⟨g, 0, none⟩) l.length c)).run Tryz.prog w = .ok (.string ⟨l.toArray⟩) w := by
  refine run_convert_bytes_back (P := Tryz.prog) w 101 9 5 ⟨g, 0, none⟩ c l Tryz.underlying101 Tryz.underlying5 Tryz.underlying9 fun j hj => ?_
  have e : (⟨g, 0, none⟩ : Addr).add j = ⟨g, j, none⟩ := by unfold Addr.add; split <;> simp_all
  rw [e]
  exact h.cells j _ (List.getElem?_eq_getElem hj)
set_option maxHeartbeats 4000000 in
set_option maxRecDepth 100000 in
theorem fault_eof {ev : Value} {w : World} (hev : EofV ev w) :
    Calls Tryz.prog 12 #[ev] w fun e w' => e = .returned (.agg #[.int .i64 2, .int .i64 0, .string ⟨#[]⟩, .string ⟨#[]⟩, .string ⟨#[]⟩, .string ⟨#[]⟩, .string ⟨#[]⟩, .string ⟨#[]⟩, .string ⟨#[]⟩]) ∧ Below w.heap.size w w' := by
  obtain ⟨g0, a, rfl⟩ := hev
  have h0 : 0 < w.heap.size := lt_of_cell g0
  have hq := err_same a
  have n1 := fa_no 81 (.pointer none) (.pointer (some a)) (by simp)
  have n2 := fa_no 84 (.string ⟨#[]⟩) (.pointer (some a)) (by simp)
  have n3 := fa_no 85 (.pointer none) (.pointer (some a)) (by simp)
  have n4 := fa_no 89 (.pointer none) (.pointer (some a)) (by simp)
  have n5 := fa_no 92 (.pointer none) (.pointer (some a)) (by simp)
  have n6 := fa_no 93 (.pointer none) (.pointer (some a)) (by simp)
  go_enter Tryz.func12, Tryz.ntmps12
  go_wp2
  refine bodyPost_ret (v := .agg #[.int .i64 2, .int .i64 0, .string ⟨#[]⟩, .string ⟨#[]⟩, .string ⟨#[]⟩, .string ⟨#[]⟩, .string ⟨#[]⟩, .string ⟨#[]⟩, .string ⟨#[]⟩]) (by simp [results, Tryz.results12, go_sem]) rfl ⟨rfl, Below.alloc1 _ _⟩
set_option maxHeartbeats 4000000 in
set_option maxRecDepth 100000 in
theorem token_text_ok {g c : Nat} {v : List UInt8} {w : World} (hR : Rds v g c w) :
    Calls Tryz.prog 13 #[.iface 101 (.slice (some ⟨g, 0, none⟩) v.length c)] w fun e w' => e = .returned (.agg #[.int .i64 3, .string ⟨#[]⟩, .string ⟨#[]⟩, .slice none 0 0, .string ⟨v.toArray⟩, .int .i64 0, .int .i64 0, .int .i64 0]) ∧ Below w.heap.size w w' := by
  have t1 := ta_text96
  have t3 := ta_text101
  have hcv : (convert 101 9 (.slice (some ⟨g, 0, none⟩) v.length c)).run Tryz.prog (w.alloc (.cells #[.int .i64 0, .string ⟨#[]⟩, .string ⟨#[]⟩, .slice none 0 0, .string ⟨#[]⟩, .int .i64 0, .int .i64 0, .int .i64 0] 35)) = .ok (.string ⟨v.toArray⟩) (w.alloc (.cells #[.int .i64 0, .string ⟨#[]⟩, .string ⟨#[]⟩, .slice none 0 0, .string ⟨#[]⟩, .int .i64 0, .int .i64 0, .int .i64 0] 35)) := (hR.below (Below.alloc1 _ _)).conv101
  have t2 := ta_text100
  have HR := Lib.hid hR
  clear hR
  go_enter Tryz.func13, Tryz.ntmps13
  go_wp2
  refine bodyPost_ret (v := .agg #[.int .i64 3, .string ⟨#[]⟩, .string ⟨#[]⟩, .slice none 0 0, .string ⟨v.toArray⟩, .int .i64 0, .int .i64 0, .int .i64 0]) (by simp [results, Tryz.results13, go_sem]) rfl ⟨rfl, Below.alloc1 _ _⟩
set_option maxHeartbeats 4000000 in
set_option maxRecDepth 100000 in
theorem token_end_ok {w : World} :
    Calls Tryz.prog 13 #[.iface 100 (.agg #[.string ⟨#[]⟩, .string ⟨#[97]⟩])] w fun e w' => e = .returned (.agg #[.int .i64 2, .string ⟨#[]⟩, .string ⟨#[97]⟩, .slice none 0 0, .string ⟨#[]⟩, .int .i64 0, .int .i64 0, .int .i64 0]) ∧ Below w.heap.size w w' := by
  have t1 := ta_end96
  have t2 := ta_end100
  go_enter Tryz.func13, Tryz.ntmps13
  go_wp2
  refine bodyPost_ret (v := .agg #[.int .i64 2, .string ⟨#[]⟩, .string ⟨#[97]⟩, .slice none 0 0, .string ⟨#[]⟩, .int .i64 0, .int .i64 0, .int .i64 0]) (by simp [results, Tryz.results13, go_sem]) rfl ⟨rfl, (Below.alloc1 _ _).trans ((Below.alloc1 _ _).mono (by simp))⟩

end Go.Proofs.YthhmnnojgjpibaaGreatDoor
namespace Go.Proofs.YthhmnnojgjpibaaGreatDoor
open Go Go.RowKit Go.Lib

attribute [local go_sem ↓] Go.wp_at_zero Go.wp_at_succ
theorem info37 : (Tryz.prog.info? 37).map (fun i => (i.zero, i.size, i.bytes)) = some (some (.agg #[.string ⟨#[]⟩, .string ⟨#[]⟩, .string ⟨#[]⟩]), 3, 48) := by kernel_rfl
/-- No block. -/
abbrev noB : Nat → Prop := fun _ => False
theorem Kp.any {w : World} {k : Nat} {o : Obj} (h : w.heap[k]? = some o) : Kp w noB k o := ⟨fun e => e, h⟩
abbrev tokO (v : Value) : Obj := .cells #[.int .i64 1, .string ⟨#[]⟩, .string ⟨#[97]⟩, v, .string ⟨#[]⟩, .int .i64 0, .int .i64 0, .int .i64 0] 35
abbrev zeroO : Obj := .cells #[.int .i64 0, .string ⟨#[]⟩, .string ⟨#[]⟩, .slice none 0 0, .string ⟨#[]⟩, .int .i64 0, .int .i64 0, .int .i64 0] 35
theorem _root_.Go.RowKit.Below.set1 {B : Nat} {w w' : World} (h : Below B w w') {b : Nat} (hb : B ≤ b) (i : Nat) (v : Value) : Below B w (w'.setCell ⟨b, i, none⟩ v) :=
  ⟨h.os, h.tape, h.output, by simpa [World.setCell] using h.size, fun k hk => (Below.heap_setCell w' ⟨b, i, none⟩ v k (by show k ≠ b; omega)).trans (h.block k hk)⟩
set_option maxHeartbeats 8000000 in
set_option maxRecDepth 100000 in
theorem token_start_ok {Fp : Nat → Prop} {b : Nat} {ats : List At} {v : Value} {w : World} (hr : Row w Fp b 98 3 v ats.length (ats.flatMap atC)) (hl : ats.length ≤ 100) (hA : ∀ a ∈ ats, AtR a) :
    Calls Tryz.prog 13 #[.iface 96 (.agg #[.string ⟨#[]⟩, .string ⟨#[97]⟩, v])] w fun e w' => ∃ v', e = .returned (.agg #[.int .i64 1, .string ⟨#[]⟩, .string ⟨#[97]⟩, v', .string ⟨#[]⟩, .int .i64 0, .int .i64 0, .int .i64 0]) ∧ w'.ownsRow w.heap.size 37 3 v' ats.length (ats.flatMap atC) ∧ Below w.heap.size w w' := by
  have t1 := ta_start96
  obtain ⟨A, c, rfl⟩ := hr.form
  have HR := Lib.hid hr
  have HA := Lib.hid hA
  clear hr hA
  go_enter Tryz.func13, Tryz.ntmps13
  go_wp2
  have hk0 : Kp (((w.alloc zeroO).alloc (.cells #[.string ⟨#[]⟩, .string ⟨#[97]⟩, .slice A ats.length c] 96)).alloc (tokO (.slice none 0 0))) noB w.heap.size zeroO := ((Kp.new_ w (fun _ e => e.elim) zeroO).alloc _).alloc _
  have hk4 : Kp (((w.alloc zeroO).alloc (.cells #[.string ⟨#[]⟩, .string ⟨#[97]⟩, .slice A ats.length c] 96)).alloc (tokO (.slice none 0 0))) noB (w.heap.size + 2) (tokO (.slice none 0 0)) := by
    have := Kp.new_ (Fp := noB) ((w.alloc zeroO).alloc (.cells #[.string ⟨#[]⟩, .string ⟨#[97]⟩, .slice A ats.length c] 96)) (fun _ e => e.elim) (tokO (.slice none 0 0))
    simpa using this
  have hb0 : Below w.heap.size w (((w.alloc zeroO).alloc (.cells #[.string ⟨#[]⟩, .string ⟨#[97]⟩, .slice A ats.length c] 96)).alloc (tokO (.slice none 0 0))) := (Below.alloc1 _ _).trans (((Below.alloc1 _ _).mono (by simp)).trans ((Below.alloc1 _ _).mono (by simp; omega)))
  have HK0 := Lib.hid hk0
  have HK4 := Lib.hid hk4
  have HB0 := Lib.hid hb0
  clear hk0 hk4 hb0
  go_loopg [26] ats.length (fun gk s26 wx => ∃ (i : Nat) (v : Value), i ≤ ats.length ∧ gk = ats.length - i ∧ s26 = .int .i64 (i : Int) ∧ Below w.heap.size w wx ∧ Kp wx noB w.heap.size zeroO ∧ Kp wx noB (w.heap.size + 2) (tokO v) ∧ wx.ownsRow w.heap.size 37 3 v i ((ats.take i).flatMap atC))
  case atStart => exact ⟨0, .slice none 0 0, Nat.zero_le _, rfl, rfl, HB0.out, HK0.out, HK4.out, World.ownsRow_nil _ _ _ _⟩
  case round =>
    obtain ⟨i, v, hi, rfl, rfl, hb, hk0, hk4, hown⟩ := hrel
    by_cases hlt : i < ats.length
    · obtain ⟨⟨x, t0, y⟩, ha⟩ : ∃ a, ats[i]? = some a := ⟨_, List.getElem?_eq_getElem hlt⟩
      obtain ⟨g, rfl, hgc, hng, hcells⟩ := HR.out.at_ (by omega)
      obtain ⟨k0, k1, k2⟩ := hcells _ _ _ _ ha
      have hgl : g < w.heap.size := lt_of_cell k0
      have k0 := (hb.cell (p := ⟨g, i * 3, none⟩) hgl).trans k0
      have k1 := (hb.cell (p := ⟨g, i * 3 + 1, none⟩) hgl).trans k1
      have k2 := (hb.cell (p := ⟨g, i * 3 + 2, none⟩) hgl).trans k2
      have hgr : g < wr.heap.size := Nat.lt_of_lt_of_le hgl hb.size
      have hi1 : (0 : Int) ≤ (i : Int) := by omega
      have hi2 : (i : Int) < (ats.length : Int) := by omega
      have q3 : wr.cell? ⟨w.heap.size + 2, 3, none⟩ = some v := hk4.cell 3
      have f3 := hk4.frozen 3
      have hl4 := hk4.lt
      have HFF := Lib.hid (⟨hb, hk0, hk4, hown⟩ : _ ∧ _ ∧ _ ∧ _)
      have hvs : ∃ A c, v = .slice A i c := by
        rcases hown.2 with ⟨rfl, rfl⟩ | ⟨g, cap, cur, rfl, _⟩
        · exact ⟨_, _, rfl⟩
        · exact ⟨_, _, rfl⟩
      obtain ⟨A2, c2, rfl⟩ := hvs
      obtain ⟨i0, hii, hz0, hz1, hz2⟩ := info_parts info37
      clear hb hk0 hk4 hown hcells
      go_wp2_with (at_builtin; refine Hid.out ?_)
      refine Lib.hid ?_
      obtain ⟨hb, hk0, hk4, hown⟩ := HFF.out
      have hnw := heap_alloc_new (wr.alloc (.cells #[.string ⟨#[]⟩, .string ⟨#[x]⟩, .string ⟨y.toArray⟩] 98)) (.cells #[.string ⟨#[]⟩, .string ⟨#[x]⟩, .string ⟨y.toArray⟩] 37)
      rw [World.size_alloc] at hnw
      have hbs := hb.size
      refine wpList_append_lies _ rfl (.tmp 31) (.tmp 41) 33 rfl w.heap.size 37 i0 _ 3 48 Tryz.underlying33 hii hz0 hz1 hz2 rfl (by decide) (.slice A2 i c2) i ((ats.take i).flatMap atC) rfl ((hown.alloc _).alloc _) ⟨wr.heap.size + 1, 0, none⟩ 1 1 [.string ⟨#[]⟩, .string ⟨#[x]⟩, .string ⟨y.toArray⟩] rfl rfl (World.news_of_block hnw) (by simp [Value.oneCell']) (by decide) (by unfold maxLen; omega) (by omega) (by simp; omega) _ rfl ?_
      intro g9 cap9 w9 hown9 hg9 hat hlt9
      have hrow : Row wr noB w.heap.size 37 3 (.slice A2 i c2) i ((ats.take i).flatMap atC) := ⟨hown, fun _ _ e => e⟩
      have hk49 := ((hk4.alloc (.cells #[.string ⟨#[]⟩, .string ⟨#[x]⟩, .string ⟨y.toArray⟩] 98)).alloc _).grown hg9 (hrow.other hk4.2 (by decide))
      have hk09 := ((hk0.alloc (.cells #[.string ⟨#[]⟩, .string ⟨#[x]⟩, .string ⟨y.toArray⟩] 98)).alloc _).grown hg9 (hrow.other hk0.2 (by decide))
      have hs9 : Stp noB noB w w9 := ((Stp.of (w := w) (w' := wr) ⟨hb.os, hb.tape, hb.output, hb.size, fun k hk _ => hb.block k hk⟩ : Stp noB noB w wr).alloc _ |>.alloc _).grown hg9 (fun g he => (ownG_lt hown he).1)
      have hb9 : Below w.heap.size w w9 := hs9.1.below (fun _ e => e.elim) (Nat.le_refl _)
      have q39 : w9.cell? ⟨w.heap.size + 2, 3, none⟩ = some (.slice A2 i c2) := hk49.cell 3
      have f39 := hk49.frozen 3
      have hgT : ∀ g, (Value.slice (some ⟨g9, 0, none⟩) (i + 1) cap9).ownBlock = some g → g ≠ w.heap.size + 2 := (show Row w9 noB w.heap.size 37 3 _ _ _ from ⟨hown9, fun _ _ e => e⟩).other hk49.2 (by decide)
      have e2 : (ats.take i).flatMap atC ++ [.string ⟨#[]⟩, .string ⟨#[x]⟩, .string ⟨y.toArray⟩] = (ats.take (i + 1)).flatMap atC := by
        have := List.getElem?_eq_some_iff.1 ha
        rw [List.take_succ_eq_append_getElem hlt, this.2, List.flatMap_append]
        simp [List.flatMap_cons, atC]
      rw [e2] at hown9
      have HF9 := Lib.hid (⟨hb9, hk09, hk49, hown9, hgT⟩ : _ ∧ _ ∧ _ ∧ _ ∧ _)
      clear hb hk0 hk4 hown hown9 hg9 hat hlt9 hrow hk49 hk09 hb9 hs9 hgT hnw k0 k1 k2 q3 f3 e2 HFF
      go_wp2
      go_roundg (ats.length - (i + 1))
      case measure => omega
      case rel =>
        obtain ⟨r1, r2, r3, r4, r5⟩ := HF9.out
        refine ⟨i + 1, _, hlt, rfl, by simp, ?_, r2.far (by omega) _, r3.set_ 3 _, ownG_kept r4 fun g he => Below.heap_setCell _ _ _ g (r5 g he)⟩
        exact r1.set1 (by omega) _ _
    · obtain rfl : i = ats.length := by omega
      have q0 : wr.cell? ⟨w.heap.size + 2, 0, none⟩ = some (.int .i64 1) := hk4.cell 0
      have q1 : wr.cell? ⟨w.heap.size + 2, 1, none⟩ = some (.string ⟨#[]⟩) := hk4.cell 1
      have q2 : wr.cell? ⟨w.heap.size + 2, 2, none⟩ = some (.string ⟨#[97]⟩) := hk4.cell 2
      have q3 : wr.cell? ⟨w.heap.size + 2, 3, none⟩ = some v := hk4.cell 3
      have q4 : wr.cell? ⟨w.heap.size + 2, 4, none⟩ = some (.string ⟨#[]⟩) := hk4.cell 4
      have q5 : wr.cell? ⟨w.heap.size + 2, 5, none⟩ = some (.int .i64 0) := hk4.cell 5
      have q6 : wr.cell? ⟨w.heap.size + 2, 6, none⟩ = some (.int .i64 0) := hk4.cell 6
      have q7 : wr.cell? ⟨w.heap.size + 2, 7, none⟩ = some (.int .i64 0) := hk4.cell 7
      have z0 : wr.cell? ⟨w.heap.size, 0, none⟩ = some (.int .i64 0) := hk0.cell 0
      have z1 : wr.cell? ⟨w.heap.size, 1, none⟩ = some (.string ⟨#[]⟩) := hk0.cell 1
      have z2 : wr.cell? ⟨w.heap.size, 2, none⟩ = some (.string ⟨#[]⟩) := hk0.cell 2
      have z3 : wr.cell? ⟨w.heap.size, 3, none⟩ = some (.slice none 0 0) := hk0.cell 3
      have z4 : wr.cell? ⟨w.heap.size, 4, none⟩ = some (.string ⟨#[]⟩) := hk0.cell 4
      have z5 : wr.cell? ⟨w.heap.size, 5, none⟩ = some (.int .i64 0) := hk0.cell 5
      have z6 : wr.cell? ⟨w.heap.size, 6, none⟩ = some (.int .i64 0) := hk0.cell 6
      have z7 : wr.cell? ⟨w.heap.size, 7, none⟩ = some (.int .i64 0) := hk0.cell 7
      have g0 := hk0.frozen
      have hl4 := hk4.lt
      have hvs : ∃ A c, v = .slice A ats.length c := (show Row wr noB w.heap.size 37 3 _ _ _ from ⟨hown, fun _ _ e => e⟩).form
      obtain ⟨A2, c2, rfl⟩ := hvs
      rw [List.take_length] at hown
      have hrow : Row wr noB w.heap.size 37 3 (.slice A2 ats.length c2) ats.length (ats.flatMap atC) := ⟨hown, fun _ _ e => e⟩
      have hno := hrow.other hk0.2 (by decide)
      have HFF := Lib.hid (⟨hb, hrow, hno⟩ : _ ∧ _ ∧ _)
      clear hb hk0 hk4 hown hrow hno
      go_wp2
      have hno := HFF.out.2.2
      refine bodyPost_ret (v := .agg #[.int .i64 1, .string ⟨#[]⟩, .string ⟨#[97]⟩, .slice A2 ats.length c2, .string ⟨#[]⟩, .int .i64 0, .int .i64 0, .int .i64 0]) (by simp [results, Tryz.results13, go_sem, z0, z1, z2, z3, z4, z5, z6, z7]) rfl ⟨_, rfl, ?_, ?_⟩
      · exact ((((((((HFF.out.2.1.far hno _).far hno _).far hno _).far hno _).far hno _).far hno _).far hno _).far hno _).1
      · exact (((((((HFF.out.1.set1 (Nat.le_refl _) _ _).set1 (Nat.le_refl _) _ _).set1 (Nat.le_refl _) _ _).set1 (Nat.le_refl _) _ _).set1 (Nat.le_refl _) _ _).set1 (Nat.le_refl _) _ _).set1 (Nat.le_refl _) _ _).set1 (Nat.le_refl _) _ _

end Go.Proofs.YthhmnnojgjpibaaGreatDoor
