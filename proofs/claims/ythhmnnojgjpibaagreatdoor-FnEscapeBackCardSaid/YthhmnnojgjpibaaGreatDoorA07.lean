/- The table of the characters that begin a name; what unicode.Is says of ASCII letters. -/
import Derived.Test.YthhmnnojgjpibaaGreatDoorA02
import Derived.Test.YthhmnnojgjpibaaGreatDoorShelf

set_option linter.unusedVariables false
set_option linter.unusedSimpArgs false

namespace Go.Proofs.YthhmnnojgjpibaaGreatDoor
open Go Go.RowKit Go.Lib

/-- A row of operations, run one behind the other, none of which calls a function. -/
def runOps (P : Program) : List Oper → Act → World → Option (Act × World)
  | [], a, w => some (a, w)
  | o :: l, a, w => match o.guard with
    | none => match (execOp a.eval o).run P w with
      | .ok (.value v) w' => runOps P l (a.put o.dst v) w'
      | .ok .skip w' => runOps P l (a.put o.dst undef) w'
      | _ => none
    | some _ => none
theorem wpList_run {P : Program} {ops : Array Oper} {Q : Exit → Act → World → Prop} : ∀ {l : List Oper} {a : Act} {w : World} {a' : Act} {w' : World}, runOps P l a w = some (a', w') → Q .normal a' w' → wpList P ops Q l a w
  | [], a, w, a', w', h, hQ => by
    simp only [runOps, Option.some.injEq, Prod.mk.injEq] at h
    obtain ⟨rfl, rfl⟩ := h
    exact hQ
  | o :: l, a, w, a', w', h, hQ => by
    unfold runOps at h
    cases hg : o.guard with
    | some g => rw [hg] at h; cases h
    | none =>
      rw [hg] at h
      refine wpList_plain hg fun K hK => ?_
      unfold Oper.wp
      cases hr : (execOp a.eval o).run P w with
      | ok n w1 =>
        rw [hr] at h
        cases n with
        | value v => exact hK _ _ (wpList_run h hQ)
        | skip => exact hK _ _ (wpList_run h hQ)
        | _ => cases h
      | halt x w1 => rw [hr] at h; cases h
/-- The table. -/
def firstT : Array Rg := #[(58, 58, 1), (65, 90, 1), (95, 95, 1), (97, 122, 1), (192, 214, 1), (216, 246, 1), (248, 255, 1), (256, 305, 1), (308, 318, 1), (321, 328, 1), (330, 382, 1), (384, 451, 1), (461, 496, 1), (500, 501, 1), (506, 535, 1), (592, 680, 1), (699, 705, 1), (902, 902, 1), (904, 906, 1), (908, 908, 1), (910, 929, 1), (931, 974, 1), (976, 982, 1), (986, 992, 2), (994, 1011, 1), (1025, 1036, 1), (1038, 1103, 1), (1105, 1116, 1), (1118, 1153, 1), (1168, 1220, 1), (1223, 1224, 1), (1227, 1228, 1), (1232, 1259, 1), (1262, 1269, 1), (1272, 1273, 1), (1329, 1366, 1), (1369, 1369, 1), (1377, 1414, 1), (1488, 1514, 1), (1520, 1522, 1), (1569, 1594, 1), (1601, 1610, 1), (1649, 1719, 1), (1722, 1726, 1), (1728, 1742, 1), (1744, 1747, 1), (1749, 1749, 1), (1765, 1766, 1), (2309, 2361, 1), (2365, 2365, 1), (2392, 2401, 1), (2437, 2444, 1), (2447, 2448, 1), (2451, 2472, 1), (2474, 2480, 1), (2482, 2482, 1), (2486, 2489, 1), (2524, 2525, 1), (2527, 2529, 1), (2544, 2545, 1), (2565, 2570, 1), (2575, 2576, 1), (2579, 2600, 1), (2602, 2608, 1), (2610, 2611, 1), (2613, 2614, 1), (2616, 2617, 1), (2649, 2652, 1), (2654, 2654, 1), (2674, 2676, 1), (2693, 2699, 1), (2701, 2701, 1), (2703, 2705, 1), (2707, 2728, 1), (2730, 2736, 1), (2738, 2739, 1), (2741, 2745, 1), (2749, 2784, 35), (2821, 2828, 1), (2831, 2832, 1), (2835, 2856, 1), (2858, 2864, 1), (2866, 2867, 1), (2870, 2873, 1), (2877, 2877, 1), (2908, 2909, 1), (2911, 2913, 1), (2949, 2954, 1), (2958, 2960, 1), (2962, 2965, 1), (2969, 2970, 1), (2972, 2972, 1), (2974, 2975, 1), (2979, 2980, 1), (2984, 2986, 1), (2990, 2997, 1), (2999, 3001, 1), (3077, 3084, 1), (3086, 3088, 1), (3090, 3112, 1), (3114, 3123, 1), (3125, 3129, 1), (3168, 3169, 1), (3205, 3212, 1), (3214, 3216, 1), (3218, 3240, 1), (3242, 3251, 1), (3253, 3257, 1), (3294, 3294, 1), (3296, 3297, 1), (3333, 3340, 1), (3342, 3344, 1), (3346, 3368, 1), (3370, 3385, 1), (3424, 3425, 1), (3585, 3630, 1), (3632, 3632, 1), (3634, 3635, 1), (3648, 3653, 1), (3713, 3714, 1), (3716, 3716, 1), (3719, 3720, 1), (3722, 3725, 3), (3732, 3735, 1), (3737, 3743, 1), (3745, 3747, 1), (3749, 3751, 2), (3754, 3755, 1), (3757, 3758, 1), (3760, 3760, 1), (3762, 3763, 1), (3773, 3773, 1), (3776, 3780, 1), (3904, 3911, 1), (3913, 3945, 1), (4256, 4293, 1), (4304, 4342, 1), (4352, 4352, 1), (4354, 4355, 1), (4357, 4359, 1), (4361, 4361, 1), (4363, 4364, 1), (4366, 4370, 1), (4412, 4416, 2), (4428, 4432, 2), (4436, 4437, 1), (4441, 4441, 1), (4447, 4449, 1), (4451, 4457, 2), (4461, 4462, 1), (4466, 4467, 1), (4469, 4510, 41), (4520, 4523, 3), (4526, 4527, 1), (4535, 4536, 1), (4538, 4538, 1), (4540, 4546, 1), (4587, 4592, 5), (4601, 4601, 1), (7680, 7835, 1), (7840, 7929, 1), (7936, 7957, 1), (7960, 7965, 1), (7968, 8005, 1), (8008, 8013, 1), (8016, 8023, 1), (8025, 8027, 2), (8029, 8029, 1), (8031, 8061, 1), (8064, 8116, 1), (8118, 8124, 1), (8126, 8126, 1), (8130, 8132, 1), (8134, 8140, 1), (8144, 8147, 1), (8150, 8155, 1), (8160, 8172, 1), (8178, 8180, 1), (8182, 8188, 1), (8486, 8486, 1), (8490, 8491, 1), (8494, 8494, 1), (8576, 8578, 1), (12295, 12295, 1), (12321, 12329, 1), (12353, 12436, 1), (12449, 12538, 1), (12549, 12588, 1), (19968, 40869, 1), (44032, 55203, 1)]
def firstI : List Int := firstT.toList.flatMap fun r => [(r.1 : Int), r.2.1, r.2.2]
def firstTab : RTab where
  off := 0
  r16 := firstT
  r32 := #[]
/-- The operations that lay it. -/
def secondRegion : Code → Option (Array Oper)
  | .seq _ (.seq (.region _ ops _) _) => some ops
  | _ => none
noncomputable def firstOps : List Oper := ((Tryz.f78.body.bind secondRegion).getD #[]).toList
noncomputable def firstAct : Act := { tmps := (Array.replicate 194 undef).setIfInBounds 0 (.pointer none), defers := [] }
noncomputable def firstW1 (w : World) : World := w.alloc (.cells (firstI.map (Value.int .u16)).toArray 215)
noncomputable def firstW (w : World) : World := (firstW1 w).alloc (.cells #[.slice (some ⟨w.heap.size, 0, none⟩) 190 190, .slice none 0 0, .int .i64 0] 212)
set_option maxRecDepth 1000000 in
theorem first_runs (w : World) : (runOps Tryz.prog firstOps firstAct w).map (fun r => (r.1.tmps[0]?, r.1.defers, r.2)) = some (some (.pointer (some ⟨(firstW1 w).heap.size, 0, none⟩)), [], firstW w) := by kernel_rfl
set_option maxRecDepth 1000000 in
theorem first_any (w : World) : Calls Tryz.prog 78 #[] w fun e w' => e = .returned (.pointer (some ⟨w.heap.size + 1, 0, none⟩)) ∧ w' = firstW w := by
  have h := first_runs w
  cases hr : runOps Tryz.prog firstOps firstAct w with
  | none => rw [hr] at h; cases h
  | some r =>
  rw [hr] at h
  obtain ⟨a', w'⟩ := r
  simp only [Option.map_some, Option.some.injEq, Prod.mk.injEq] at h
  obtain ⟨h1, h2, rfl⟩ := h
  have hz : (firstW1 w).heap.size = w.heap.size + 1 := by simp [firstW1]
  rw [hz] at h1
  go_enter Tryz.func78, Tryz.ntmps78
  go_upto_region 1 with fail
  refine wp_region_list ?_
  refine wpList_run (a' := a') (w' := firstW w) ?_ ?_
  · exact Eq.trans (b := runOps Tryz.prog firstOps firstAct w) (by kernel_rfl) hr
  · go_wp2
    exact bodyPost_ret (v := .pointer (some ⟨w.heap.size + 1, 0, none⟩)) (by simp [results, Tryz.results78, go_sem, h1]) h2 ⟨rfl, rfl⟩
theorem first_all : ((List.range 190).all fun i => firstI[i * 3]? == some ((firstT.getD i (0, 0, 0)).1 : Int) && firstI[i * 3 + 1]? == some ((firstT.getD i (0, 0, 0)).2.1 : Int) && firstI[i * 3 + 2]? == some ((firstT.getD i (0, 0, 0)).2.2 : Int)) = true := by kernel_rfl
theorem first_okB : ((List.range 190).all fun i => decide ((firstT.getD i (0, 0, 0)).1 < 65536) && decide ((firstT.getD i (0, 0, 0)).2.1 < 65536) && decide ((firstT.getD i (0, 0, 0)).2.2 < 65536) && decide (1 ≤ (firstT.getD i (0, 0, 0)).2.2)) = true := by kernel_rfl
theorem first_size : firstT.size = 190 := by kernel_rfl
theorem r16_eq : firstTab.r16 = firstT := rfl
theorem first32 : firstTab.r32 = #[] := rfl
theorem no32 (i : Nat) : ¬ i < firstTab.r32.size := by rw [first32]; exact Nat.not_lt_zero i
theorem firstTab_ok : RTabOk firstTab := by
  refine ⟨fun i hi => ?_, fun i hi => ?_, by rw [r16_eq, first_size]; decide, by rw [first32]; decide, by rw [first32]; decide, by decide⟩
  · rw [r16_eq] at hi ⊢
    have h := List.all_eq_true.1 first_okB i (by rw [List.mem_range]; rw [← first_size]; exact hi)
    simp only [Bool.and_eq_true, decide_eq_true_eq] at h
    exact ⟨h.1.1.1, h.1.1.2, h.1.2, h.2⟩
  · exact absurd hi (no32 i)
theorem first_below (w : World) : Below w.heap.size w (firstW w) := ((Below.refl _ _).alloc (Nat.le_refl _) _).alloc (by simp) _
theorem first_tab (w : World) : RTabAt (w.heap.size + 1) 0 firstTab (firstW w) := by
  have hz : (firstW1 w).heap.size = w.heap.size + 1 := by simp [firstW1]
  have h1 : (firstW w).heap[w.heap.size + 1]? = some (.cells #[.slice (some ⟨w.heap.size, 0, none⟩) 190 190, .slice none 0 0, .int .i64 0] 212 (0, 0)) := by
    have := heap_alloc_new (firstW1 w) (.cells #[.slice (some ⟨w.heap.size, 0, none⟩) 190 190, .slice none 0 0, .int .i64 0] 212)
    rw [hz] at this
    exact this
  have h0 : (firstW w).heap[w.heap.size]? = some (.cells (firstI.map (Value.int .u16)).toArray 215 (0, 0)) := by
    refine (Below.heap_alloc (firstW1 w) _ w.heap.size (by omega)).trans ?_
    exact heap_alloc_new w _
  refine ⟨some ⟨w.heap.size, 0, none⟩, none, w.heap.size, 0, 190, 0, 0, 0, ?_, ?_, ?_, fun _ => rfl, fun h => absurd h (no32 0), ?_, ?_, ?_⟩
  · rw [Lib.cell_of_heap h1]; rw [r16_eq, first_size]; rfl
  · rw [Lib.cell_of_heap h1]; rfl
  · rw [Lib.cell_of_heap h1]; rfl
  · intro i hi
    rw [r16_eq] at hi ⊢
    have hi' : i < 190 := by rw [← first_size]; exact hi
    have h := List.all_eq_true.1 first_all i (List.mem_range.2 hi')
    simp only [Bool.and_eq_true, beq_iff_eq] at h
    simp only [Lib.cell_of_heap h0, List.getElem?_toArray, List.getElem?_map, Nat.zero_add, h.1.1, h.1.2, h.2, Option.map_some]
    exact ⟨trivial, trivial, trivial⟩
  · intro i hi
    exact absurd hi (no32 i)
  · rw [r16_eq, first_size]; decide
theorem first_letters : ((List.range 123).all fun n => decide (n < 97) || isGo firstTab n) = true := by kernel_rfl
theorem first_letter {n : Nat} (h1 : 97 ≤ n) (h2 : n ≤ 122) : isGo firstTab n = true := by
  have h := List.all_eq_true.1 first_letters n (List.mem_range.2 (by omega))
  simp only [Bool.or_eq_true, decide_eq_true_eq] at h
  exact h.resolve_left (by omega)
end Go.Proofs.YthhmnnojgjpibaaGreatDoor
