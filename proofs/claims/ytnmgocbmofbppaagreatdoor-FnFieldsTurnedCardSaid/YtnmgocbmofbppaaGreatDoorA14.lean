/- UnquoteChar: octal; all of it. -/
import Derived.Test.YtnmgocbmofbppaaGreatDoorA13
import Derived.Deep.RegionHeldLaw
import Derived.Deep.RegionHeld3
import Derived.WalkMore
import Derived.KernelRfl
import Derived.Outline
import Derived.BigGuardPart
import Derived.Deep.DeepMust
import Derived.Deep.LoopGhost
import Derived.Deep.DeepCutAuto
import Derived.Deep.CutBlock
import Derived.Deep.QuietTactic
import Derived.BigQuiet
import Derived.Lib.Hide
import Derived.WalkSpells
import Derived.Deep.Light
import Derived.Deep.RegionWith
import Derived.WalkLawsBesides
import Derived.StillTailTactics

set_option linter.unusedVariables false
set_option linter.unusedSimpArgs false

namespace Go.Proofs.YtnmgocbmofbppaaGreatDoor
open Go.RowKit

/-- The number of the first digits of base 8. -/
def octN (t : ByteArray) (c : Int) : Nat → Option Int
  | 0 => some (c - 48)
  | j + 1 => match octN t c j with
    | none => none
    | some v => if h : j < t.size then (if 48 ≤ (t[j].toNat : Int) ∧ (t[j].toNat : Int) ≤ 55 then some (bits .or .i32 (wrap32 (v * 8)) ((t[j].toNat : Int) - 48)) else none) else none
theorem octN_none {t : ByteArray} {c : Int} {k : Nat} (h : octN t c k = none) : ∀ n, k ≤ n → octN t c n = none
  | 0, hn => by
    obtain rfl : k = 0 := by omega
    exact h
  | n + 1, hn => by
    by_cases e : k = n + 1
    · rw [← e]; exact h
    · have := octN_none h n (by omega)
      simp only [octN, this]
theorem octN_yes {t : ByteArray} {c : Int} {k : Nat} {v d : Int} (h : octN t c k = some v) (hk : k < t.size) (hc : (t[k].toNat : Int) = d) (h1 : 48 ≤ d) (h2 : d ≤ 55) : octN t c (k + 1) = some (bits .or .i32 (wrap32 (v * 8)) (d - 48)) := by
  simp only [octN, h, dif_pos hk, hc, h1, h2, and_self, if_true]
theorem octN_no {t : ByteArray} {c : Int} {k : Nat} {v d : Int} (h : octN t c k = some v) (hk : k < t.size) (hc : (t[k].toNat : Int) = d) (h1 : ¬ (48 ≤ d ∧ d ≤ 55)) : octN t c (k + 1) = none := by
  simp only [octN, h, dif_pos hk, hc, if_neg h1]
/-- A number of base 8, behind two bytes. -/
def octO (s : ByteArray) (c : Int) : Option (Int × Bool × ByteArray) :=
  if (s.extract 2 s.size).size < 2 then none else match octN (s.extract 2 s.size) c 2 with
    | none => none
    | some v => if 255 < v then none else some (v, false, (s.extract 2 s.size).extract 2 (s.size - 2))
set_option maxHeartbeats 4000000 in
set_option maxRecDepth 100000 in
theorem uqc_48 (s : ByteArray) (hs : 1 < s.size) (hs2 : s.size ≤ 1000000) (h0 : (s[0].toNat : Int) = 92) (h1 : (s[1].toNat : Int) = 48) : UqC s (octO s 48) := by
  intro w _ ⟨a, ha⟩
  have hz : ((s.size : Int) == 0) = false := by rw [beq_eq_false_iff_ne]; omega
  have hz1 : decide ((s.size : Int) ≤ 1) = false := decide_eq_false (by omega)
  have hts : (s.extract 2 s.size).size = s.size - 2 := by simp
  unfold octO
  rw [hts]
  by_cases hn : s.size - 2 < 2
  · rw [if_pos hn]
    have hn' : ((s.size - 2 : Nat) : Int) < 2 := by omega
    clear hts
    go_enter Tryz.func82, Tryz.ntmps82
    go_wp2
    (try simp only [Exit.inBlock, Exit.then])
    refine bodyPost_ret (res4 rfl _ _ _) rfl ?_
    exact UqPost.bad _ _ (Below.refl _ _)
  · rw [if_neg hn]
    obtain ⟨o, ho⟩ : ∃ o, (match octN (s.extract 2 s.size) 48 2 with
      | none => none
      | some v => if 255 < v then none else some (v, false, (s.extract 2 s.size).extract 2 (s.size - 2))) = o := ⟨_, rfl⟩
    rw [ho]
    have HO := Lib.hid ho
    clear ho
    have hn' : decide (((s.size - 2 : Nat) : Int) < 2) = false := decide_eq_false (by omega)
    have hn2 : 2 ≤ s.size - 2 := by omega
    have HTS := Lib.hid hts
    clear hts hn
    go_enter Tryz.func82, Tryz.ntmps82
    go_wp2
    go_loop [7, 17, 18] (fun er v j => er = .nilIface ∧ ∃ (k : Nat) (x : Int), k ≤ 2 ∧ j = .int .i64 k ∧ v = .int .i32 x ∧ octN (s.extract 2 s.size) 48 k = some x) (fun _ _ j => 2 - (intOf j).toNat)
    case atStart => exact ⟨rfl, 0, _, by omega, rfl, rfl, rfl⟩
    case round =>
      obtain ⟨rfl, k, x, hk, rfl, rfl, hx⟩ := hrel
      by_cases hlt : k < 2
      · have hkt : k < (s.extract 2 s.size).size := by rw [HTS.out]; omega
        obtain ⟨d, hd⟩ : ∃ d : Int, ((s.extract 2 s.size)[k].toNat : Int) = d := ⟨_, rfl⟩
        have hd0 : 0 ≤ d := by omega
        have hd1 : d ≤ 255 := by have := UInt8.toNat_lt (s.extract 2 s.size)[k]; omega
        have HX := Lib.hid hx
        by_cases hr : 48 ≤ d ∧ d ≤ 55
        · have hyes := octN_yes hx hkt hd hr.1 hr.2
          have HYES := Lib.hid hyes
          have e1 : decide (d - 48 < 0) = false := decide_eq_false (by omega)
          have e2 : decide (7 < d - 48) = false := decide_eq_false (by omega)
          obtain ⟨hr1, hr2⟩ := hr
          clear hx hyes
          go_wp2
          go_round
          case rel => exact ⟨rfl, k + 1, _, by omega, by go_num, rfl, HYES.out⟩
          case measure => simp [intOf]; omega
        · have hno := octN_none (octN_no hx hkt hd hr) 2 (by omega)
          have HNO := Lib.hid hno
          have HR := Lib.hid hr
          clear hx hno hr
          have e := HO.out
          rw [HNO.out] at e
          obtain rfl := e
          by_cases hr1 : d - 48 < 0
          · go_wp2
            (try simp only [Exit.inBlock, Exit.then])
            refine bodyPost_ret (res4 rfl _ _ _) rfl ?_
            exact UqPost.bad _ _ (Below.refl _ _)
          · have e1 : decide (d - 48 < 0) = false := decide_eq_false hr1
            have hr2 : 7 < d - 48 := by
              have := HR.out
              omega
            go_wp2
            (try simp only [Exit.inBlock, Exit.then])
            refine bodyPost_ret (res4 rfl _ _ _) rfl ?_
            exact UqPost.bad _ _ (Below.refl _ _)
      · obtain rfl : k = 2 := by omega
        have HX := Lib.hid hx
        clear hx
        have e := HO.out
        rw [HX.out] at e
        simp only at e
        by_cases hv : 255 < x
        · rw [if_pos hv] at e
          obtain rfl := e
          go_wp2
          (try simp only [Exit.inBlock, Exit.then])
          refine bodyPost_ret (res4 rfl _ _ _) rfl ?_
          exact UqPost.bad _ _ (Below.refl _ _)
        · rw [if_neg hv] at e
          obtain rfl := e
          have e2 : decide (255 < x) = false := decide_eq_false hv
          go_wp2
          (try simp only [Exit.inBlock, Exit.then])
          refine bodyPost_ret (res4 rfl _ _ _) rfl ?_
          exact UqPost.ok _ _ _ _
set_option maxHeartbeats 4000000 in
set_option maxRecDepth 100000 in
theorem uqc_49 (s : ByteArray) (hs : 1 < s.size) (hs2 : s.size ≤ 1000000) (h0 : (s[0].toNat : Int) = 92) (h1 : (s[1].toNat : Int) = 49) : UqC s (octO s 49) := by
  intro w _ ⟨a, ha⟩
  have hz : ((s.size : Int) == 0) = false := by rw [beq_eq_false_iff_ne]; omega
  have hz1 : decide ((s.size : Int) ≤ 1) = false := decide_eq_false (by omega)
  have hts : (s.extract 2 s.size).size = s.size - 2 := by simp
  unfold octO
  rw [hts]
  by_cases hn : s.size - 2 < 2
  · rw [if_pos hn]
    have hn' : ((s.size - 2 : Nat) : Int) < 2 := by omega
    clear hts
    go_enter Tryz.func82, Tryz.ntmps82
    go_wp2
    (try simp only [Exit.inBlock, Exit.then])
    refine bodyPost_ret (res4 rfl _ _ _) rfl ?_
    exact UqPost.bad _ _ (Below.refl _ _)
  · rw [if_neg hn]
    obtain ⟨o, ho⟩ : ∃ o, (match octN (s.extract 2 s.size) 49 2 with
      | none => none
      | some v => if 255 < v then none else some (v, false, (s.extract 2 s.size).extract 2 (s.size - 2))) = o := ⟨_, rfl⟩
    rw [ho]
    have HO := Lib.hid ho
    clear ho
    have hn' : decide (((s.size - 2 : Nat) : Int) < 2) = false := decide_eq_false (by omega)
    have hn2 : 2 ≤ s.size - 2 := by omega
    have HTS := Lib.hid hts
    clear hts hn
    go_enter Tryz.func82, Tryz.ntmps82
    go_wp2
    go_loop [7, 17, 18] (fun er v j => er = .nilIface ∧ ∃ (k : Nat) (x : Int), k ≤ 2 ∧ j = .int .i64 k ∧ v = .int .i32 x ∧ octN (s.extract 2 s.size) 49 k = some x) (fun _ _ j => 2 - (intOf j).toNat)
    case atStart => exact ⟨rfl, 0, _, by omega, rfl, rfl, rfl⟩
    case round =>
      obtain ⟨rfl, k, x, hk, rfl, rfl, hx⟩ := hrel
      by_cases hlt : k < 2
      · have hkt : k < (s.extract 2 s.size).size := by rw [HTS.out]; omega
        obtain ⟨d, hd⟩ : ∃ d : Int, ((s.extract 2 s.size)[k].toNat : Int) = d := ⟨_, rfl⟩
        have hd0 : 0 ≤ d := by omega
        have hd1 : d ≤ 255 := by have := UInt8.toNat_lt (s.extract 2 s.size)[k]; omega
        have HX := Lib.hid hx
        by_cases hr : 48 ≤ d ∧ d ≤ 55
        · have hyes := octN_yes hx hkt hd hr.1 hr.2
          have HYES := Lib.hid hyes
          have e1 : decide (d - 48 < 0) = false := decide_eq_false (by omega)
          have e2 : decide (7 < d - 48) = false := decide_eq_false (by omega)
          obtain ⟨hr1, hr2⟩ := hr
          clear hx hyes
          go_wp2
          go_round
          case rel => exact ⟨rfl, k + 1, _, by omega, by go_num, rfl, HYES.out⟩
          case measure => simp [intOf]; omega
        · have hno := octN_none (octN_no hx hkt hd hr) 2 (by omega)
          have HNO := Lib.hid hno
          have HR := Lib.hid hr
          clear hx hno hr
          have e := HO.out
          rw [HNO.out] at e
          obtain rfl := e
          by_cases hr1 : d - 48 < 0
          · go_wp2
            (try simp only [Exit.inBlock, Exit.then])
            refine bodyPost_ret (res4 rfl _ _ _) rfl ?_
            exact UqPost.bad _ _ (Below.refl _ _)
          · have e1 : decide (d - 48 < 0) = false := decide_eq_false hr1
            have hr2 : 7 < d - 48 := by
              have := HR.out
              omega
            go_wp2
            (try simp only [Exit.inBlock, Exit.then])
            refine bodyPost_ret (res4 rfl _ _ _) rfl ?_
            exact UqPost.bad _ _ (Below.refl _ _)
      · obtain rfl : k = 2 := by omega
        have HX := Lib.hid hx
        clear hx
        have e := HO.out
        rw [HX.out] at e
        simp only at e
        by_cases hv : 255 < x
        · rw [if_pos hv] at e
          obtain rfl := e
          go_wp2
          (try simp only [Exit.inBlock, Exit.then])
          refine bodyPost_ret (res4 rfl _ _ _) rfl ?_
          exact UqPost.bad _ _ (Below.refl _ _)
        · rw [if_neg hv] at e
          obtain rfl := e
          have e2 : decide (255 < x) = false := decide_eq_false hv
          go_wp2
          (try simp only [Exit.inBlock, Exit.then])
          refine bodyPost_ret (res4 rfl _ _ _) rfl ?_
          exact UqPost.ok _ _ _ _
set_option maxHeartbeats 4000000 in
set_option maxRecDepth 100000 in
theorem uqc_50 (s : ByteArray) (hs : 1 < s.size) (hs2 : s.size ≤ 1000000) (h0 : (s[0].toNat : Int) = 92) (h1 : (s[1].toNat : Int) = 50) : UqC s (octO s 50) := by
  intro w _ ⟨a, ha⟩
  have hz : ((s.size : Int) == 0) = false := by rw [beq_eq_false_iff_ne]; omega
  have hz1 : decide ((s.size : Int) ≤ 1) = false := decide_eq_false (by omega)
  have hts : (s.extract 2 s.size).size = s.size - 2 := by simp
  unfold octO
  rw [hts]
  by_cases hn : s.size - 2 < 2
  · rw [if_pos hn]
    have hn' : ((s.size - 2 : Nat) : Int) < 2 := by omega
    clear hts
    go_enter Tryz.func82, Tryz.ntmps82
    go_wp2
    (try simp only [Exit.inBlock, Exit.then])
    refine bodyPost_ret (res4 rfl _ _ _) rfl ?_
    exact UqPost.bad _ _ (Below.refl _ _)
  · rw [if_neg hn]
    obtain ⟨o, ho⟩ : ∃ o, (match octN (s.extract 2 s.size) 50 2 with
      | none => none
      | some v => if 255 < v then none else some (v, false, (s.extract 2 s.size).extract 2 (s.size - 2))) = o := ⟨_, rfl⟩
    rw [ho]
    have HO := Lib.hid ho
    clear ho
    have hn' : decide (((s.size - 2 : Nat) : Int) < 2) = false := decide_eq_false (by omega)
    have hn2 : 2 ≤ s.size - 2 := by omega
    have HTS := Lib.hid hts
    clear hts hn
    go_enter Tryz.func82, Tryz.ntmps82
    go_wp2
    go_loop [7, 17, 18] (fun er v j => er = .nilIface ∧ ∃ (k : Nat) (x : Int), k ≤ 2 ∧ j = .int .i64 k ∧ v = .int .i32 x ∧ octN (s.extract 2 s.size) 50 k = some x) (fun _ _ j => 2 - (intOf j).toNat)
    case atStart => exact ⟨rfl, 0, _, by omega, rfl, rfl, rfl⟩
    case round =>
      obtain ⟨rfl, k, x, hk, rfl, rfl, hx⟩ := hrel
      by_cases hlt : k < 2
      · have hkt : k < (s.extract 2 s.size).size := by rw [HTS.out]; omega
        obtain ⟨d, hd⟩ : ∃ d : Int, ((s.extract 2 s.size)[k].toNat : Int) = d := ⟨_, rfl⟩
        have hd0 : 0 ≤ d := by omega
        have hd1 : d ≤ 255 := by have := UInt8.toNat_lt (s.extract 2 s.size)[k]; omega
        have HX := Lib.hid hx
        by_cases hr : 48 ≤ d ∧ d ≤ 55
        · have hyes := octN_yes hx hkt hd hr.1 hr.2
          have HYES := Lib.hid hyes
          have e1 : decide (d - 48 < 0) = false := decide_eq_false (by omega)
          have e2 : decide (7 < d - 48) = false := decide_eq_false (by omega)
          obtain ⟨hr1, hr2⟩ := hr
          clear hx hyes
          go_wp2
          go_round
          case rel => exact ⟨rfl, k + 1, _, by omega, by go_num, rfl, HYES.out⟩
          case measure => simp [intOf]; omega
        · have hno := octN_none (octN_no hx hkt hd hr) 2 (by omega)
          have HNO := Lib.hid hno
          have HR := Lib.hid hr
          clear hx hno hr
          have e := HO.out
          rw [HNO.out] at e
          obtain rfl := e
          by_cases hr1 : d - 48 < 0
          · go_wp2
            (try simp only [Exit.inBlock, Exit.then])
            refine bodyPost_ret (res4 rfl _ _ _) rfl ?_
            exact UqPost.bad _ _ (Below.refl _ _)
          · have e1 : decide (d - 48 < 0) = false := decide_eq_false hr1
            have hr2 : 7 < d - 48 := by
              have := HR.out
              omega
            go_wp2
            (try simp only [Exit.inBlock, Exit.then])
            refine bodyPost_ret (res4 rfl _ _ _) rfl ?_
            exact UqPost.bad _ _ (Below.refl _ _)
      · obtain rfl : k = 2 := by omega
        have HX := Lib.hid hx
        clear hx
        have e := HO.out
        rw [HX.out] at e
        simp only at e
        by_cases hv : 255 < x
        · rw [if_pos hv] at e
          obtain rfl := e
          go_wp2
          (try simp only [Exit.inBlock, Exit.then])
          refine bodyPost_ret (res4 rfl _ _ _) rfl ?_
          exact UqPost.bad _ _ (Below.refl _ _)
        · rw [if_neg hv] at e
          obtain rfl := e
          have e2 : decide (255 < x) = false := decide_eq_false hv
          go_wp2
          (try simp only [Exit.inBlock, Exit.then])
          refine bodyPost_ret (res4 rfl _ _ _) rfl ?_
          exact UqPost.ok _ _ _ _
set_option maxHeartbeats 4000000 in
set_option maxRecDepth 100000 in
theorem uqc_51 (s : ByteArray) (hs : 1 < s.size) (hs2 : s.size ≤ 1000000) (h0 : (s[0].toNat : Int) = 92) (h1 : (s[1].toNat : Int) = 51) : UqC s (octO s 51) := by
  intro w _ ⟨a, ha⟩
  have hz : ((s.size : Int) == 0) = false := by rw [beq_eq_false_iff_ne]; omega
  have hz1 : decide ((s.size : Int) ≤ 1) = false := decide_eq_false (by omega)
  have hts : (s.extract 2 s.size).size = s.size - 2 := by simp
  unfold octO
  rw [hts]
  by_cases hn : s.size - 2 < 2
  · rw [if_pos hn]
    have hn' : ((s.size - 2 : Nat) : Int) < 2 := by omega
    clear hts
    go_enter Tryz.func82, Tryz.ntmps82
    go_wp2
    (try simp only [Exit.inBlock, Exit.then])
    refine bodyPost_ret (res4 rfl _ _ _) rfl ?_
    exact UqPost.bad _ _ (Below.refl _ _)
  · rw [if_neg hn]
    obtain ⟨o, ho⟩ : ∃ o, (match octN (s.extract 2 s.size) 51 2 with
      | none => none
      | some v => if 255 < v then none else some (v, false, (s.extract 2 s.size).extract 2 (s.size - 2))) = o := ⟨_, rfl⟩
    rw [ho]
    have HO := Lib.hid ho
    clear ho
    have hn' : decide (((s.size - 2 : Nat) : Int) < 2) = false := decide_eq_false (by omega)
    have hn2 : 2 ≤ s.size - 2 := by omega
    have HTS := Lib.hid hts
    clear hts hn
    go_enter Tryz.func82, Tryz.ntmps82
    go_wp2
    go_loop [7, 17, 18] (fun er v j => er = .nilIface ∧ ∃ (k : Nat) (x : Int), k ≤ 2 ∧ j = .int .i64 k ∧ v = .int .i32 x ∧ octN (s.extract 2 s.size) 51 k = some x) (fun _ _ j => 2 - (intOf j).toNat)
    case atStart => exact ⟨rfl, 0, _, by omega, rfl, rfl, rfl⟩
    case round =>
      obtain ⟨rfl, k, x, hk, rfl, rfl, hx⟩ := hrel
      by_cases hlt : k < 2
      · have hkt : k < (s.extract 2 s.size).size := by rw [HTS.out]; omega
        obtain ⟨d, hd⟩ : ∃ d : Int, ((s.extract 2 s.size)[k].toNat : Int) = d := ⟨_, rfl⟩
        have hd0 : 0 ≤ d := by omega
        have hd1 : d ≤ 255 := by have := UInt8.toNat_lt (s.extract 2 s.size)[k]; omega
        have HX := Lib.hid hx
        by_cases hr : 48 ≤ d ∧ d ≤ 55
        · have hyes := octN_yes hx hkt hd hr.1 hr.2
          have HYES := Lib.hid hyes
          have e1 : decide (d - 48 < 0) = false := decide_eq_false (by omega)
          have e2 : decide (7 < d - 48) = false := decide_eq_false (by omega)
          obtain ⟨hr1, hr2⟩ := hr
          clear hx hyes
          go_wp2
          go_round
          case rel => exact ⟨rfl, k + 1, _, by omega, by go_num, rfl, HYES.out⟩
          case measure => simp [intOf]; omega
        · have hno := octN_none (octN_no hx hkt hd hr) 2 (by omega)
          have HNO := Lib.hid hno
          have HR := Lib.hid hr
          clear hx hno hr
          have e := HO.out
          rw [HNO.out] at e
          obtain rfl := e
          by_cases hr1 : d - 48 < 0
          · go_wp2
            (try simp only [Exit.inBlock, Exit.then])
            refine bodyPost_ret (res4 rfl _ _ _) rfl ?_
            exact UqPost.bad _ _ (Below.refl _ _)
          · have e1 : decide (d - 48 < 0) = false := decide_eq_false hr1
            have hr2 : 7 < d - 48 := by
              have := HR.out
              omega
            go_wp2
            (try simp only [Exit.inBlock, Exit.then])
            refine bodyPost_ret (res4 rfl _ _ _) rfl ?_
            exact UqPost.bad _ _ (Below.refl _ _)
      · obtain rfl : k = 2 := by omega
        have HX := Lib.hid hx
        clear hx
        have e := HO.out
        rw [HX.out] at e
        simp only at e
        by_cases hv : 255 < x
        · rw [if_pos hv] at e
          obtain rfl := e
          go_wp2
          (try simp only [Exit.inBlock, Exit.then])
          refine bodyPost_ret (res4 rfl _ _ _) rfl ?_
          exact UqPost.bad _ _ (Below.refl _ _)
        · rw [if_neg hv] at e
          obtain rfl := e
          have e2 : decide (255 < x) = false := decide_eq_false hv
          go_wp2
          (try simp only [Exit.inBlock, Exit.then])
          refine bodyPost_ret (res4 rfl _ _ _) rfl ?_
          exact UqPost.ok _ _ _ _
set_option maxHeartbeats 4000000 in
set_option maxRecDepth 100000 in
theorem uqc_52 (s : ByteArray) (hs : 1 < s.size) (hs2 : s.size ≤ 1000000) (h0 : (s[0].toNat : Int) = 92) (h1 : (s[1].toNat : Int) = 52) : UqC s (octO s 52) := by
  intro w _ ⟨a, ha⟩
  have hz : ((s.size : Int) == 0) = false := by rw [beq_eq_false_iff_ne]; omega
  have hz1 : decide ((s.size : Int) ≤ 1) = false := decide_eq_false (by omega)
  have hts : (s.extract 2 s.size).size = s.size - 2 := by simp
  unfold octO
  rw [hts]
  by_cases hn : s.size - 2 < 2
  · rw [if_pos hn]
    have hn' : ((s.size - 2 : Nat) : Int) < 2 := by omega
    clear hts
    go_enter Tryz.func82, Tryz.ntmps82
    go_wp2
    (try simp only [Exit.inBlock, Exit.then])
    refine bodyPost_ret (res4 rfl _ _ _) rfl ?_
    exact UqPost.bad _ _ (Below.refl _ _)
  · rw [if_neg hn]
    obtain ⟨o, ho⟩ : ∃ o, (match octN (s.extract 2 s.size) 52 2 with
      | none => none
      | some v => if 255 < v then none else some (v, false, (s.extract 2 s.size).extract 2 (s.size - 2))) = o := ⟨_, rfl⟩
    rw [ho]
    have HO := Lib.hid ho
    clear ho
    have hn' : decide (((s.size - 2 : Nat) : Int) < 2) = false := decide_eq_false (by omega)
    have hn2 : 2 ≤ s.size - 2 := by omega
    have HTS := Lib.hid hts
    clear hts hn
    go_enter Tryz.func82, Tryz.ntmps82
    go_wp2
    go_loop [7, 17, 18] (fun er v j => er = .nilIface ∧ ∃ (k : Nat) (x : Int), k ≤ 2 ∧ j = .int .i64 k ∧ v = .int .i32 x ∧ octN (s.extract 2 s.size) 52 k = some x) (fun _ _ j => 2 - (intOf j).toNat)
    case atStart => exact ⟨rfl, 0, _, by omega, rfl, rfl, rfl⟩
    case round =>
      obtain ⟨rfl, k, x, hk, rfl, rfl, hx⟩ := hrel
      by_cases hlt : k < 2
      · have hkt : k < (s.extract 2 s.size).size := by rw [HTS.out]; omega
        obtain ⟨d, hd⟩ : ∃ d : Int, ((s.extract 2 s.size)[k].toNat : Int) = d := ⟨_, rfl⟩
        have hd0 : 0 ≤ d := by omega
        have hd1 : d ≤ 255 := by have := UInt8.toNat_lt (s.extract 2 s.size)[k]; omega
        have HX := Lib.hid hx
        by_cases hr : 48 ≤ d ∧ d ≤ 55
        · have hyes := octN_yes hx hkt hd hr.1 hr.2
          have HYES := Lib.hid hyes
          have e1 : decide (d - 48 < 0) = false := decide_eq_false (by omega)
          have e2 : decide (7 < d - 48) = false := decide_eq_false (by omega)
          obtain ⟨hr1, hr2⟩ := hr
          clear hx hyes
          go_wp2
          go_round
          case rel => exact ⟨rfl, k + 1, _, by omega, by go_num, rfl, HYES.out⟩
          case measure => simp [intOf]; omega
        · have hno := octN_none (octN_no hx hkt hd hr) 2 (by omega)
          have HNO := Lib.hid hno
          have HR := Lib.hid hr
          clear hx hno hr
          have e := HO.out
          rw [HNO.out] at e
          obtain rfl := e
          by_cases hr1 : d - 48 < 0
          · go_wp2
            (try simp only [Exit.inBlock, Exit.then])
            refine bodyPost_ret (res4 rfl _ _ _) rfl ?_
            exact UqPost.bad _ _ (Below.refl _ _)
          · have e1 : decide (d - 48 < 0) = false := decide_eq_false hr1
            have hr2 : 7 < d - 48 := by
              have := HR.out
              omega
            go_wp2
            (try simp only [Exit.inBlock, Exit.then])
            refine bodyPost_ret (res4 rfl _ _ _) rfl ?_
            exact UqPost.bad _ _ (Below.refl _ _)
      · obtain rfl : k = 2 := by omega
        have HX := Lib.hid hx
        clear hx
        have e := HO.out
        rw [HX.out] at e
        simp only at e
        by_cases hv : 255 < x
        · rw [if_pos hv] at e
          obtain rfl := e
          go_wp2
          (try simp only [Exit.inBlock, Exit.then])
          refine bodyPost_ret (res4 rfl _ _ _) rfl ?_
          exact UqPost.bad _ _ (Below.refl _ _)
        · rw [if_neg hv] at e
          obtain rfl := e
          have e2 : decide (255 < x) = false := decide_eq_false hv
          go_wp2
          (try simp only [Exit.inBlock, Exit.then])
          refine bodyPost_ret (res4 rfl _ _ _) rfl ?_
          exact UqPost.ok _ _ _ _
set_option maxHeartbeats 4000000 in
set_option maxRecDepth 100000 in
theorem uqc_53 (s : ByteArray) (hs : 1 < s.size) (hs2 : s.size ≤ 1000000) (h0 : (s[0].toNat : Int) = 92) (h1 : (s[1].toNat : Int) = 53) : UqC s (octO s 53) := by
  intro w _ ⟨a, ha⟩
  have hz : ((s.size : Int) == 0) = false := by rw [beq_eq_false_iff_ne]; omega
  have hz1 : decide ((s.size : Int) ≤ 1) = false := decide_eq_false (by omega)
  have hts : (s.extract 2 s.size).size = s.size - 2 := by simp
  unfold octO
  rw [hts]
  by_cases hn : s.size - 2 < 2
  · rw [if_pos hn]
    have hn' : ((s.size - 2 : Nat) : Int) < 2 := by omega
    clear hts
    go_enter Tryz.func82, Tryz.ntmps82
    go_wp2
    (try simp only [Exit.inBlock, Exit.then])
    refine bodyPost_ret (res4 rfl _ _ _) rfl ?_
    exact UqPost.bad _ _ (Below.refl _ _)
  · rw [if_neg hn]
    obtain ⟨o, ho⟩ : ∃ o, (match octN (s.extract 2 s.size) 53 2 with
      | none => none
      | some v => if 255 < v then none else some (v, false, (s.extract 2 s.size).extract 2 (s.size - 2))) = o := ⟨_, rfl⟩
    rw [ho]
    have HO := Lib.hid ho
    clear ho
    have hn' : decide (((s.size - 2 : Nat) : Int) < 2) = false := decide_eq_false (by omega)
    have hn2 : 2 ≤ s.size - 2 := by omega
    have HTS := Lib.hid hts
    clear hts hn
    go_enter Tryz.func82, Tryz.ntmps82
    go_wp2
    go_loop [7, 17, 18] (fun er v j => er = .nilIface ∧ ∃ (k : Nat) (x : Int), k ≤ 2 ∧ j = .int .i64 k ∧ v = .int .i32 x ∧ octN (s.extract 2 s.size) 53 k = some x) (fun _ _ j => 2 - (intOf j).toNat)
    case atStart => exact ⟨rfl, 0, _, by omega, rfl, rfl, rfl⟩
    case round =>
      obtain ⟨rfl, k, x, hk, rfl, rfl, hx⟩ := hrel
      by_cases hlt : k < 2
      · have hkt : k < (s.extract 2 s.size).size := by rw [HTS.out]; omega
        obtain ⟨d, hd⟩ : ∃ d : Int, ((s.extract 2 s.size)[k].toNat : Int) = d := ⟨_, rfl⟩
        have hd0 : 0 ≤ d := by omega
        have hd1 : d ≤ 255 := by have := UInt8.toNat_lt (s.extract 2 s.size)[k]; omega
        have HX := Lib.hid hx
        by_cases hr : 48 ≤ d ∧ d ≤ 55
        · have hyes := octN_yes hx hkt hd hr.1 hr.2
          have HYES := Lib.hid hyes
          have e1 : decide (d - 48 < 0) = false := decide_eq_false (by omega)
          have e2 : decide (7 < d - 48) = false := decide_eq_false (by omega)
          obtain ⟨hr1, hr2⟩ := hr
          clear hx hyes
          go_wp2
          go_round
          case rel => exact ⟨rfl, k + 1, _, by omega, by go_num, rfl, HYES.out⟩
          case measure => simp [intOf]; omega
        · have hno := octN_none (octN_no hx hkt hd hr) 2 (by omega)
          have HNO := Lib.hid hno
          have HR := Lib.hid hr
          clear hx hno hr
          have e := HO.out
          rw [HNO.out] at e
          obtain rfl := e
          by_cases hr1 : d - 48 < 0
          · go_wp2
            (try simp only [Exit.inBlock, Exit.then])
            refine bodyPost_ret (res4 rfl _ _ _) rfl ?_
            exact UqPost.bad _ _ (Below.refl _ _)
          · have e1 : decide (d - 48 < 0) = false := decide_eq_false hr1
            have hr2 : 7 < d - 48 := by
              have := HR.out
              omega
            go_wp2
            (try simp only [Exit.inBlock, Exit.then])
            refine bodyPost_ret (res4 rfl _ _ _) rfl ?_
            exact UqPost.bad _ _ (Below.refl _ _)
      · obtain rfl : k = 2 := by omega
        have HX := Lib.hid hx
        clear hx
        have e := HO.out
        rw [HX.out] at e
        simp only at e
        by_cases hv : 255 < x
        · rw [if_pos hv] at e
          obtain rfl := e
          go_wp2
          (try simp only [Exit.inBlock, Exit.then])
          refine bodyPost_ret (res4 rfl _ _ _) rfl ?_
          exact UqPost.bad _ _ (Below.refl _ _)
        · rw [if_neg hv] at e
          obtain rfl := e
          have e2 : decide (255 < x) = false := decide_eq_false hv
          go_wp2
          (try simp only [Exit.inBlock, Exit.then])
          refine bodyPost_ret (res4 rfl _ _ _) rfl ?_
          exact UqPost.ok _ _ _ _
set_option maxHeartbeats 4000000 in
set_option maxRecDepth 100000 in
theorem uqc_54 (s : ByteArray) (hs : 1 < s.size) (hs2 : s.size ≤ 1000000) (h0 : (s[0].toNat : Int) = 92) (h1 : (s[1].toNat : Int) = 54) : UqC s (octO s 54) := by
  intro w _ ⟨a, ha⟩
  have hz : ((s.size : Int) == 0) = false := by rw [beq_eq_false_iff_ne]; omega
  have hz1 : decide ((s.size : Int) ≤ 1) = false := decide_eq_false (by omega)
  have hts : (s.extract 2 s.size).size = s.size - 2 := by simp
  unfold octO
  rw [hts]
  by_cases hn : s.size - 2 < 2
  · rw [if_pos hn]
    have hn' : ((s.size - 2 : Nat) : Int) < 2 := by omega
    clear hts
    go_enter Tryz.func82, Tryz.ntmps82
    go_wp2
    (try simp only [Exit.inBlock, Exit.then])
    refine bodyPost_ret (res4 rfl _ _ _) rfl ?_
    exact UqPost.bad _ _ (Below.refl _ _)
  · rw [if_neg hn]
    obtain ⟨o, ho⟩ : ∃ o, (match octN (s.extract 2 s.size) 54 2 with
      | none => none
      | some v => if 255 < v then none else some (v, false, (s.extract 2 s.size).extract 2 (s.size - 2))) = o := ⟨_, rfl⟩
    rw [ho]
    have HO := Lib.hid ho
    clear ho
    have hn' : decide (((s.size - 2 : Nat) : Int) < 2) = false := decide_eq_false (by omega)
    have hn2 : 2 ≤ s.size - 2 := by omega
    have HTS := Lib.hid hts
    clear hts hn
    go_enter Tryz.func82, Tryz.ntmps82
    go_wp2
    go_loop [7, 17, 18] (fun er v j => er = .nilIface ∧ ∃ (k : Nat) (x : Int), k ≤ 2 ∧ j = .int .i64 k ∧ v = .int .i32 x ∧ octN (s.extract 2 s.size) 54 k = some x) (fun _ _ j => 2 - (intOf j).toNat)
    case atStart => exact ⟨rfl, 0, _, by omega, rfl, rfl, rfl⟩
    case round =>
      obtain ⟨rfl, k, x, hk, rfl, rfl, hx⟩ := hrel
      by_cases hlt : k < 2
      · have hkt : k < (s.extract 2 s.size).size := by rw [HTS.out]; omega
        obtain ⟨d, hd⟩ : ∃ d : Int, ((s.extract 2 s.size)[k].toNat : Int) = d := ⟨_, rfl⟩
        have hd0 : 0 ≤ d := by omega
        have hd1 : d ≤ 255 := by have := UInt8.toNat_lt (s.extract 2 s.size)[k]; omega
        have HX := Lib.hid hx
        by_cases hr : 48 ≤ d ∧ d ≤ 55
        · have hyes := octN_yes hx hkt hd hr.1 hr.2
          have HYES := Lib.hid hyes
          have e1 : decide (d - 48 < 0) = false := decide_eq_false (by omega)
          have e2 : decide (7 < d - 48) = false := decide_eq_false (by omega)
          obtain ⟨hr1, hr2⟩ := hr
          clear hx hyes
          go_wp2
          go_round
          case rel => exact ⟨rfl, k + 1, _, by omega, by go_num, rfl, HYES.out⟩
          case measure => simp [intOf]; omega
        · have hno := octN_none (octN_no hx hkt hd hr) 2 (by omega)
          have HNO := Lib.hid hno
          have HR := Lib.hid hr
          clear hx hno hr
          have e := HO.out
          rw [HNO.out] at e
          obtain rfl := e
          by_cases hr1 : d - 48 < 0
          · go_wp2
            (try simp only [Exit.inBlock, Exit.then])
            refine bodyPost_ret (res4 rfl _ _ _) rfl ?_
            exact UqPost.bad _ _ (Below.refl _ _)
          · have e1 : decide (d - 48 < 0) = false := decide_eq_false hr1
            have hr2 : 7 < d - 48 := by
              have := HR.out
              omega
            go_wp2
            (try simp only [Exit.inBlock, Exit.then])
            refine bodyPost_ret (res4 rfl _ _ _) rfl ?_
            exact UqPost.bad _ _ (Below.refl _ _)
      · obtain rfl : k = 2 := by omega
        have HX := Lib.hid hx
        clear hx
        have e := HO.out
        rw [HX.out] at e
        simp only at e
        by_cases hv : 255 < x
        · rw [if_pos hv] at e
          obtain rfl := e
          go_wp2
          (try simp only [Exit.inBlock, Exit.then])
          refine bodyPost_ret (res4 rfl _ _ _) rfl ?_
          exact UqPost.bad _ _ (Below.refl _ _)
        · rw [if_neg hv] at e
          obtain rfl := e
          have e2 : decide (255 < x) = false := decide_eq_false hv
          go_wp2
          (try simp only [Exit.inBlock, Exit.then])
          refine bodyPost_ret (res4 rfl _ _ _) rfl ?_
          exact UqPost.ok _ _ _ _
set_option maxHeartbeats 4000000 in
set_option maxRecDepth 100000 in
theorem uqc_55 (s : ByteArray) (hs : 1 < s.size) (hs2 : s.size ≤ 1000000) (h0 : (s[0].toNat : Int) = 92) (h1 : (s[1].toNat : Int) = 55) : UqC s (octO s 55) := by
  intro w _ ⟨a, ha⟩
  have hz : ((s.size : Int) == 0) = false := by rw [beq_eq_false_iff_ne]; omega
  have hz1 : decide ((s.size : Int) ≤ 1) = false := decide_eq_false (by omega)
  have hts : (s.extract 2 s.size).size = s.size - 2 := by simp
  unfold octO
  rw [hts]
  by_cases hn : s.size - 2 < 2
  · rw [if_pos hn]
    have hn' : ((s.size - 2 : Nat) : Int) < 2 := by omega
    clear hts
    go_enter Tryz.func82, Tryz.ntmps82
    go_wp2
    (try simp only [Exit.inBlock, Exit.then])
    refine bodyPost_ret (res4 rfl _ _ _) rfl ?_
    exact UqPost.bad _ _ (Below.refl _ _)
  · rw [if_neg hn]
    obtain ⟨o, ho⟩ : ∃ o, (match octN (s.extract 2 s.size) 55 2 with
      | none => none
      | some v => if 255 < v then none else some (v, false, (s.extract 2 s.size).extract 2 (s.size - 2))) = o := ⟨_, rfl⟩
    rw [ho]
    have HO := Lib.hid ho
    clear ho
    have hn' : decide (((s.size - 2 : Nat) : Int) < 2) = false := decide_eq_false (by omega)
    have hn2 : 2 ≤ s.size - 2 := by omega
    have HTS := Lib.hid hts
    clear hts hn
    go_enter Tryz.func82, Tryz.ntmps82
    go_wp2
    go_loop [7, 17, 18] (fun er v j => er = .nilIface ∧ ∃ (k : Nat) (x : Int), k ≤ 2 ∧ j = .int .i64 k ∧ v = .int .i32 x ∧ octN (s.extract 2 s.size) 55 k = some x) (fun _ _ j => 2 - (intOf j).toNat)
    case atStart => exact ⟨rfl, 0, _, by omega, rfl, rfl, rfl⟩
    case round =>
      obtain ⟨rfl, k, x, hk, rfl, rfl, hx⟩ := hrel
      by_cases hlt : k < 2
      · have hkt : k < (s.extract 2 s.size).size := by rw [HTS.out]; omega
        obtain ⟨d, hd⟩ : ∃ d : Int, ((s.extract 2 s.size)[k].toNat : Int) = d := ⟨_, rfl⟩
        have hd0 : 0 ≤ d := by omega
        have hd1 : d ≤ 255 := by have := UInt8.toNat_lt (s.extract 2 s.size)[k]; omega
        have HX := Lib.hid hx
        by_cases hr : 48 ≤ d ∧ d ≤ 55
        · have hyes := octN_yes hx hkt hd hr.1 hr.2
          have HYES := Lib.hid hyes
          have e1 : decide (d - 48 < 0) = false := decide_eq_false (by omega)
          have e2 : decide (7 < d - 48) = false := decide_eq_false (by omega)
          obtain ⟨hr1, hr2⟩ := hr
          clear hx hyes
          go_wp2
          go_round
          case rel => exact ⟨rfl, k + 1, _, by omega, by go_num, rfl, HYES.out⟩
          case measure => simp [intOf]; omega
        · have hno := octN_none (octN_no hx hkt hd hr) 2 (by omega)
          have HNO := Lib.hid hno
          have HR := Lib.hid hr
          clear hx hno hr
          have e := HO.out
          rw [HNO.out] at e
          obtain rfl := e
          by_cases hr1 : d - 48 < 0
          · go_wp2
            (try simp only [Exit.inBlock, Exit.then])
            refine bodyPost_ret (res4 rfl _ _ _) rfl ?_
            exact UqPost.bad _ _ (Below.refl _ _)
          · have e1 : decide (d - 48 < 0) = false := decide_eq_false hr1
            have hr2 : 7 < d - 48 := by
              have := HR.out
              omega
            go_wp2
            (try simp only [Exit.inBlock, Exit.then])
            refine bodyPost_ret (res4 rfl _ _ _) rfl ?_
            exact UqPost.bad _ _ (Below.refl _ _)
      · obtain rfl : k = 2 := by omega
        have HX := Lib.hid hx
        clear hx
        have e := HO.out
        rw [HX.out] at e
        simp only at e
        by_cases hv : 255 < x
        · rw [if_pos hv] at e
          obtain rfl := e
          go_wp2
          (try simp only [Exit.inBlock, Exit.then])
          refine bodyPost_ret (res4 rfl _ _ _) rfl ?_
          exact UqPost.bad _ _ (Below.refl _ _)
        · rw [if_neg hv] at e
          obtain rfl := e
          have e2 : decide (255 < x) = false := decide_eq_false hv
          go_wp2
          (try simp only [Exit.inBlock, Exit.then])
          refine bodyPost_ret (res4 rfl _ _ _) rfl ?_
          exact UqPost.ok _ _ _ _
end Go.Proofs.YtnmgocbmofbppaaGreatDoor
