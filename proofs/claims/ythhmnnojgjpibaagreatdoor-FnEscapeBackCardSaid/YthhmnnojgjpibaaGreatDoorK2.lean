/- FnEscapeBack: THE CARD: for every text the law answers true, and its argument reads as before; the listed variables as the program's text lays them. -/
import Derived.Test.YthhmnnojgjpibaaGreatDoorA10
import Derived.Test.YthhmnnojgjpibaaGreatDoorA23
import Derived.Test.YthhmnnojgjpibaaGreatDoorCards
import Derived.Test.YthhmnnojgjpibaaGreatDoorTie
import Derived.WalkKit
import Derived.ProofKit
import Derived.OpenShut
import Derived.SizedLaws
import Derived.WideKeyArgs
import Derived.Deep.DeepHandedRow
import Derived.Deep.DeepWitnessRowRef
import Derived.SevenTiedAt

set_option linter.unusedVariables false
set_option linter.unusedSimpArgs false

namespace Go.Proofs.YthhmnnojgjpibaaGreatDoor
open Go.ChangeShapes Go.WideShapes Go.ChangeAt Go.RowKit
open Go.ChangeMaps (open_string shut_string)

abbrev argsI : Array Value := #[.string ⟨#[]⟩]
set_option maxRecDepth 1000000 in
theorem reads_wit (os : Os) {H : Type} (enc : TypeId × Value → H) : ∃ places, DataW.whole enc Tryz.prog ((witW os).forCall (fun _ _ => 0) ⟨#[], argsI, []⟩).memory Tryz.f3.params.toList Rows.fnEscapeBackSpec.vars false argsI.toList 8 = some ([.lit (.string [])], [], places) :=
  ⟨[], by kernel_rfl⟩
set_option maxRecDepth 1000000 in
theorem shaped_wit (os : Os) : ((witW os).forCall (fun _ _ => 0) ⟨#[], argsI, []⟩).Shaped Tryz.prog := World.shaped_of_ZipB (by kernel_rfl) (by kernel_rfl)
set_option maxRecDepth 1000000 in
theorem okB_wit (os : Os) : Input.okWideB Tryz.prog ((witW os).forCall (fun _ _ => 0) ⟨#[], argsI, []⟩) 3 ⟨#[], argsI, []⟩ = true := by kernel_rfl
set_option maxRecDepth 1000000 in
theorem wit_row (os : Os) {H : Type} (enc : TypeId × Value → H) : (OpenSpec.ofChange Rows.fnEscapeBackSpec).preRow enc Tryz.prog Tryz.f3 Rows.fnEscapeBackRow.domain false Rows.fnEscapeBackRow.laid ((witW os).forCall (fun _ _ => 0) ⟨#[], argsI, []⟩).memory argsI := by
  obtain ⟨places, hx⟩ := reads_wit os enc
  exact OpenSpec.preRow_of_cond 8 hx (by kernel_rfl) (fun k hk => by cases hk) (by kernel_rfl) ((laid_plainH _).symm ▸ wit_laid os argsI)
set_option maxRecDepth 1000000 in
theorem back_lifted (os : Os) (started : os.Started) (H : Type) (enc : TypeId × Value → H) (F : Stop.Interp) :
    ReturnsInHanded {} Tryz.checked os 3 .any ((OpenSpec.ofChange Rows.fnEscapeBackSpec).preRow enc Tryz.prog Tryz.f3 Rows.fnEscapeBackRow.domain false Rows.fnEscapeBackRow.laid) (((OpenSpec.ofChange Rows.fnEscapeBackSpec).at F).post enc Tryz.prog Tryz.f3 false true false false) := by
  refine returnsInHanded_of_row (C := Tryz.checked) (s := OpenSpec.ofChange Rows.fnEscapeBackSpec) own_knob started (by kernel_rfl) Tryz.func3
    ⟨witW os, fun _ _ => 0, ⟨#[], argsI, []⟩, World.laidAll_os _ _ _, shaped_wit os, (Input.okWide_of_okWideB (base := 0) (okB_wit os)).1, (Input.okWide_of_okWideB (okB_wit os)).2, wit_row os enc, by
      simp only [Assume.holds]
      exact ⟨by simp, by simp, by simp, by simp, by simp⟩⟩ ?_
  intro W base args ds gs before hval0 hW _ _ hwt0 hL0 _ _
  have hval : ∀ (j : Nat) t v, Tryz.f3.params[j]? = some t → args[j]? = some v → Value.okWide Tryz.prog W .any base t v := hval0
  have hL : laidMet Tryz.prog laidL W := by
    have h : laidMetH Tryz.prog laidL W := hL0
    rw [laid_plainH] at h
    exact h
  have hW' := hW
  obtain ⟨p, q, hA0, hV, rfl, _, _⟩ := hW
  have hA : DataW.TrodAll enc Tryz.prog W 0 (fun _ => true) true Tryz.f3.params.toList args.toList ds p := hA0
  rw [Tryz.params3] at hA hval
  obtain ⟨v0, d0, rfl, rfl, h0⟩ := trodAll_one hA
  obtain ⟨rfl, rfl⟩ := trodVars_none hV
  simp only [List.append_nil] at hW'
  obtain ⟨s, rfl, rfl, rfl, ws⟩ := open_string Tryz.underlying9 (hval 0 9 v0 rfl rfl) h0
  obtain ⟨hU, ⟨ev, hE⟩, h0⟩ := laid_facts hL
  refine (law_any s W hU hE h0).mono fun e W' ⟨he, hb⟩ => ?_
  subst he
  exact ⟨_, rfl, _, _, _, [], _, [], hW', trodAll_mk1 (shut_bool Tryz.underlying4 true), trodAll_mk1 (shut_string Tryz.underlying9 ws), rfl, hb.frame _, fun h => by cases h⟩
theorem back_said : Rows.FnEscapeBackSaid :=
  OpenClaim.holds_of_cond 3 Tryz.f3 rfl rfl rfl rfl rfl rfl rfl ⟨rfl, rfl, rfl, rfl, rfl⟩ rfl rfl rfl rfl rfl (by kernel_rfl) Tryz.func3 (by kernel_rfl)
    (of_decide_eq_true (by kernel_rfl)) (by unfold Func.isWrapper; first | (rw [if_pos (by decide +kernel)]; kernel_rfl) | (rw [if_neg (by decide +kernel)]; exact ⟨rfl, rfl⟩))
    (fun os started H enc _ F => by rw [OpenClaim.pre_eq_preRow]; exact back_lifted os started H enc F)
theorem back_plain (f : FuncId) (fn : Func) (hf : Tryz.pinned.checked.prog.funcNamed "pub-palaeographer/laws.FnEscapeBack" = some f) (hfn : Tryz.pinned.checked.prog.funcs[f]? = some fn) :
    true = Tryz.pinned.checked.prog.looks [] ∧ ∀ (j : Nat) t, fn.params[j]? = some t → Tryz.pinned.checked.prog.wantsStandIn t = false := by
  obtain rfl : f = 3 := Option.some.inj ((show Tryz.prog.funcNamed "pub-palaeographer/laws.FnEscapeBack" = some 3 by kernel_rfl).symm.trans hf) |>.symm
  obtain rfl : fn = Tryz.f3 := (Option.some.inj (Tryz.func3.symm.trans hfn)).symm
  refine ⟨by kernel_rfl, fun j t ht => ?_⟩
  rw [Tryz.params3] at ht
  have hm : t ∈ [9] := by simpa using Array.mem_of_getElem? ht
  have hall : ([9].all fun u => !Tryz.prog.wantsStandIn u) = true := by kernel_rfl
  exact (show Tryz.prog.wantsStandIn t = false by simpa using List.all_eq_true.1 hall t hm)
theorem back_card : Rows.FnEscapeBackCardSaid :=
  Claim7.holds_tied_plain_at .later [] _ _ _ _ back_said (fun _ h => by cases h) (by kernel_rfl) (fun _ h => by cases h) fnEscapeBack_row_tie rfl ⟨rfl, rfl⟩ (by kernel_rfl) rfl back_plain (by kernel_rfl)
end Go.Proofs.YthhmnnojgjpibaaGreatDoor
