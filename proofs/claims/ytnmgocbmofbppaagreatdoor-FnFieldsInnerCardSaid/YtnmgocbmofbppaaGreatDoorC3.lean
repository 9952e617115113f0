/- FnFieldsInner: THE CARD: for every list of named types, every name, pointer or not: the law answers true, and its arguments read as before; the listed variables as the program's text lays them. -/
import Derived.Test.YtnmgocbmofbppaaGreatDoorA29
import Derived.Test.YtnmgocbmofbppaaGreatDoorI2

set_option linter.unusedVariables false
set_option linter.unusedSimpArgs false

namespace Go.Proofs.YtnmgocbmofbppaaGreatDoor
open Go.ChangeShapes Go.WideShapes Go.ChangeAt Go.RowKit
open Go.ChangeMaps (open_string shut_string)

abbrev argsI : Array Value := #[.slice none 0 0, .string ⟨#[]⟩, .bool false]
set_option maxRecDepth 1000000 in
theorem reads_inner (os : Os) {H : Type} (enc : TypeId × Value → H) : ∃ places, DataW.whole enc Tryz.prog ((witW os).forCall (fun _ _ => 0) ⟨#[], argsI, []⟩).memory Tryz.f3.params.toList Rows.fnFieldsInnerSpec.vars false argsI.toList 8 = some ([.nil, .lit (.string []), .lit (.bool false)], [], places) :=
  ⟨[], by kernel_rfl⟩
set_option maxRecDepth 1000000 in
theorem shaped_inner (os : Os) : ((witW os).forCall (fun _ _ => 0) ⟨#[], argsI, []⟩).Shaped Tryz.prog := World.shaped_of_ZipB (by kernel_rfl) (by kernel_rfl)
set_option maxRecDepth 1000000 in
theorem okB_inner (os : Os) : Input.okWideB Tryz.prog ((witW os).forCall (fun _ _ => 0) ⟨#[], argsI, []⟩) 3 ⟨#[], argsI, []⟩ = true := by kernel_rfl
set_option maxRecDepth 1000000 in
theorem inner_row (os : Os) {H : Type} (enc : TypeId × Value → H) : (OpenSpec.ofChange Rows.fnFieldsInnerSpec).preRow enc Tryz.prog Tryz.f3 Rows.fnFieldsInnerRow.domain false Rows.fnFieldsInnerRow.laid ((witW os).forCall (fun _ _ => 0) ⟨#[], argsI, []⟩).memory argsI := by
  obtain ⟨places, hx⟩ := reads_inner os enc
  exact OpenSpec.preRow_of_cond 8 hx (by kernel_rfl) (fun k hk => by cases hk) (by kernel_rfl) ((laid_plainH _).symm ▸ wit_laid os argsI)
set_option maxRecDepth 1000000 in
theorem inner_lifted (os : Os) (started : os.Started) (H : Type) (enc : TypeId × Value → H) (F : Stop.Interp) :
    ReturnsInHanded {} Tryz.checked os 3 .any ((OpenSpec.ofChange Rows.fnFieldsInnerSpec).preRow enc Tryz.prog Tryz.f3 Rows.fnFieldsInnerRow.domain false Rows.fnFieldsInnerRow.laid) (((OpenSpec.ofChange Rows.fnFieldsInnerSpec).at F).post enc Tryz.prog Tryz.f3 false true false false) := by
  refine returnsInHanded_of_row (C := Tryz.checked) (s := OpenSpec.ofChange Rows.fnFieldsInnerSpec) own_knob started (by kernel_rfl) Tryz.func3
    ⟨witW os, fun _ _ => 0, ⟨#[], argsI, []⟩, World.laidAll_os _ _ _, shaped_inner os, (Input.okWide_of_okWideB (base := 0) (okB_inner os)).1, (Input.okWide_of_okWideB (okB_inner os)).2, inner_row os enc, by
      simp only [Assume.holds]
      exact ⟨by simp, by simp, by simp, by simp, by simp⟩⟩ ?_
  intro W base args ds gs before hval0 hW _ _ hwt0 hL0 _ _
  have hval : ∀ (j : Nat) t v, Tryz.f3.params[j]? = some t → args[j]? = some v → Value.okWide Tryz.prog W .any base t v := hval0
  have hL : laidMet Tryz.prog laidL W := by
    have h : laidMetH Tryz.prog laidL W := hL0
    rw [laid_plainH] at h
    exact h
  have hW' := hW
  obtain ⟨p, q, hA0, hV, rfl, _, _⟩ := hW
  have hA : DataW.TrodAll enc Tryz.prog W 0 (fun _ => true) true Tryz.f3.params.toList args.toList ds p := hA0
  have hwt : (DataW.weightsEach Tryz.prog (Tryz.f3.params.toList ++ []) (ds ++ gs)).all (· ≤ reachBytes) = true := hwt0
  have hlt := hA.lt
  rw [Tryz.params3] at hA hval hwt
  obtain ⟨v0, v1, v2, d0, d1, d2, p0, p1, p2, rfl, rfl, rfl, h0, h1, h2⟩ := trodAll_three hA
  obtain ⟨rfl, rfl⟩ := trodVars_none hV
  simp only [List.append_nil] at hW' hwt
  have hall : ∀ (j : Nat) (t : TypeId) (d : DataW H), [22, 9, 4][j]? = some t → [d0, d1, d2][j]? = some d → Wt t d := fun j t d ht hd n hn => by
    have := List.all_eq_true.1 hwt n (DataW.weights_mem_each ht hd n hn)
    simpa using this
  obtain ⟨s, rfl, rfl, rfl, ws⟩ := open_string Tryz.underlying9 (hval 1 9 v1 rfl rfl) h1
  obtain ⟨b, rfl, rfl, rfl⟩ := open_bool Tryz.underlying4 (hval 2 4 v2 rfl rfl) h2
  have hc0 := slice_cell Tryz.underlying22 (hval 0 22 v0 rfl rfl)
  have h0' := h0
  obtain ⟨fuel, hf0⟩ := h0'
  rw [hc0] at hf0
  obtain ⟨A, c, l, rfl, hll, hnd⟩ := open_named hf0 (hall 0 22 d0 rfl rfl)
  have hnl : s.size ≤ big := (hall 1 9 _ rfl rfl).str
  obtain ⟨hU, hT, hE⟩ := laid_facts hL
  refine (inner_any (sees_any _ W.heap.size) l A c s b W (Nat.le_refl _) hU hT hE hnd hll hnl).mono fun e W' ⟨he, hb⟩ => ?_
  subst he
  have hlt0 : ∀ x ∈ p0, x.block < W.heap.size := fun x hx => hlt x (by simp [hx])
  exact ⟨_, rfl, _, _, _, [], p0 ++ ([] ++ ([] ++ [])), [], hW', trodAll_mk1 (shut_bool Tryz.underlying4 true), ⟨p0, [] ++ ([] ++ []), trod_below read22 row22 h0 hlt0 hb, ⟨[], [] ++ [], shut_string Tryz.underlying9 ws, ⟨[], [], shut_bool Tryz.underlying4 b, rfl, rfl⟩, rfl⟩, rfl⟩, rfl, hb.frame _, fun h => by cases h⟩
theorem inner_said : Rows.FnFieldsInnerSaid :=
  OpenClaim.holds_of_cond 3 Tryz.f3 rfl rfl rfl rfl rfl rfl rfl ⟨rfl, rfl, rfl, rfl, rfl⟩ rfl rfl rfl rfl rfl (by kernel_rfl) Tryz.func3 (by kernel_rfl)
    (of_decide_eq_true (by kernel_rfl)) (by unfold Func.isWrapper; first | (rw [if_pos (by decide +kernel)]; kernel_rfl) | (rw [if_neg (by decide +kernel)]; exact ⟨rfl, rfl⟩))
    (fun os started H enc _ F => by rw [OpenClaim.pre_eq_preRow]; exact inner_lifted os started H enc F)
theorem inner_plain (f : FuncId) (fn : Func) (hf : Tryz.pinned.checked.prog.funcNamed "pub-palaeographer/laws.FnFieldsInner" = some f) (hfn : Tryz.pinned.checked.prog.funcs[f]? = some fn) :
    true = Tryz.pinned.checked.prog.looks [] ∧ ∀ (j : Nat) t, fn.params[j]? = some t → Tryz.pinned.checked.prog.wantsStandIn t = false := by
  obtain rfl : f = 3 := Option.some.inj ((show Tryz.prog.funcNamed "pub-palaeographer/laws.FnFieldsInner" = some 3 by kernel_rfl).symm.trans hf) |>.symm
  obtain rfl : fn = Tryz.f3 := (Option.some.inj (Tryz.func3.symm.trans hfn)).symm
  refine ⟨by kernel_rfl, fun j t ht => ?_⟩
  rw [Tryz.params3] at ht
  have hm : t ∈ [22, 9, 4] := by simpa using Array.mem_of_getElem? ht
  have hall : ([22, 9, 4].all fun u => !Tryz.prog.wantsStandIn u) = true := by kernel_rfl
  exact (show Tryz.prog.wantsStandIn t = false by simpa using List.all_eq_true.1 hall t hm)
theorem inner_card : Rows.FnFieldsInnerCardSaid :=
  Claim7.holds_tied_plain_at .later [] _ _ _ _ inner_said (fun _ h => by cases h) (by kernel_rfl) (fun _ h => by cases h) fnFieldsInner_row_tie rfl ⟨rfl, rfl⟩ (by kernel_rfl) rfl inner_plain (by kernel_rfl)
end Go.Proofs.YtnmgocbmofbppaaGreatDoor
