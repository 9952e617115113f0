/- UnquoteChar: all of it. -/
import Derived.Test.YtnmgocbmofbppaaGreatDoorA14

set_option linter.unusedVariables false
set_option linter.unusedSimpArgs false

namespace Go.Proofs.YtnmgocbmofbppaaGreatDoor
open Go.RowKit

theorem hexO_ok (s : ByteArray) (x : Bool) (n : Nat) (hn : 2 ≤ n) (hs : 1 < s.size) : UqOk s (hexO s x n) := fun r mb t e => by
  unfold hexO at e
  split at e
  · cases e
  · rename_i hl
    simp at hl
    split at e
    · cases e
    · rename_i v _
      have hsz : ((s.extract 2 s.size).extract n (s.size - 2)).size + (2 + n) ≤ s.size := by
        simp
        omega
      split at e
      · obtain ⟨rfl, rfl, rfl⟩ : v = r ∧ false = mb ∧ (s.extract 2 s.size).extract n (s.size - 2) = t := by simpa using e
        exact ⟨by omega, fun h => by cases h⟩
      · split at e
        · rename_i hv
          obtain ⟨rfl, rfl, rfl⟩ : v = r ∧ true = mb ∧ (s.extract 2 s.size).extract n (s.size - 2) = t := by simpa using e
          have hv' : (0 ≤ v ∧ v < 0xD800) ∨ (0xDFFF < v ∧ v ≤ 0x10FFFF) := of_decide_eq_true hv
          have h4 := runeCells_le v
          exact ⟨by omega, fun _ => ⟨by omega, by omega, by omega⟩⟩
        · cases e
theorem octO_ok (s : ByteArray) (c : Int) (hs : 1 < s.size) : UqOk s (octO s c) := fun r mb t e => by
  unfold octO at e
  split at e
  · cases e
  · rename_i hl
    simp at hl
    split at e
    · cases e
    · rename_i v _
      split at e
      · cases e
      · obtain ⟨rfl, rfl, rfl⟩ : v = r ∧ false = mb ∧ (s.extract 2 s.size).extract 2 (s.size - 2) = t := by simpa using e
        exact ⟨by simp; omega, fun h => by cases h⟩
theorem uqc_ex (s : ByteArray) (hs2 : s.size ≤ 1000000) : ∃ o, UqOk s o ∧ UqC s o := by
  by_cases h0 : s.size = 0
  · exact ⟨none, uqOk_none s, uqc_empty s h0⟩
  have hs : 0 < s.size := by omega
  obtain ⟨c, hc⟩ : ∃ c : Int, (s[0].toNat : Int) = c := ⟨_, rfl⟩
  by_cases h34 : c = 34
  · subst h34
    exact ⟨none, uqOk_none s, uqc_quote s hs hs2 hc⟩
  by_cases h128 : 128 ≤ c
  · obtain ⟨w1, w2, w3, w4⟩ := decodeGo_w s hs
    refine ⟨_, fun r mb t e => ?_, uqc_high s hs hs2 c hc h128⟩
    obtain ⟨rfl, rfl, rfl⟩ : ((Lib.decodeGo s).1 : Int) = r ∧ true = mb ∧ s.extract (Lib.decodeGo s).2 s.size = t := by simpa using e
    have hsz : (s.extract (Lib.decodeGo s).2 s.size).size = s.size - (Lib.decodeGo s).2 := by simp
    exact ⟨by omega, fun _ => ⟨by omega, by omega, by omega⟩⟩
  by_cases h92 : c = 92
  · subst h92
    by_cases h1 : s.size ≤ 1
    · exact ⟨none, uqOk_none s, uqc_short s hs h1 hc⟩
    have hs1 : 1 < s.size := by omega
    obtain ⟨d, hd⟩ : ∃ d : Int, (s[1].toNat : Int) = d := ⟨_, rfl⟩
    by_cases hm : d ∈ escs
    · simp only [escs, List.mem_cons, List.not_mem_nil, or_false] at hm
      rcases hm with rfl | rfl | rfl | rfl | rfl | rfl | rfl | rfl | rfl | rfl | rfl | rfl | rfl | rfl | rfl | rfl | rfl | rfl | rfl | rfl | rfl
      · exact ⟨_, uqOk_byte (by omega) (by omega), uqc_97 s hs1 hs2 hc hd⟩
      · exact ⟨_, uqOk_byte (by omega) (by omega), uqc_98 s hs1 hs2 hc hd⟩
      · exact ⟨_, uqOk_byte (by omega) (by omega), uqc_102 s hs1 hs2 hc hd⟩
      · exact ⟨_, uqOk_byte (by omega) (by omega), uqc_110 s hs1 hs2 hc hd⟩
      · exact ⟨_, uqOk_byte (by omega) (by omega), uqc_114 s hs1 hs2 hc hd⟩
      · exact ⟨_, uqOk_byte (by omega) (by omega), uqc_116 s hs1 hs2 hc hd⟩
      · exact ⟨_, uqOk_byte (by omega) (by omega), uqc_118 s hs1 hs2 hc hd⟩
      · exact ⟨_, hexO_ok s true 2 (by omega) hs1, uqc_120 s hs1 hs2 hc hd⟩
      · exact ⟨_, hexO_ok s false 4 (by omega) hs1, uqc_117 s hs1 hs2 hc hd⟩
      · exact ⟨_, hexO_ok s false 8 (by omega) hs1, uqc_85 s hs1 hs2 hc hd⟩
      · exact ⟨_, octO_ok s 48 hs1, uqc_48 s hs1 hs2 hc hd⟩
      · exact ⟨_, octO_ok s 49 hs1, uqc_49 s hs1 hs2 hc hd⟩
      · exact ⟨_, octO_ok s 50 hs1, uqc_50 s hs1 hs2 hc hd⟩
      · exact ⟨_, octO_ok s 51 hs1, uqc_51 s hs1 hs2 hc hd⟩
      · exact ⟨_, octO_ok s 52 hs1, uqc_52 s hs1 hs2 hc hd⟩
      · exact ⟨_, octO_ok s 53 hs1, uqc_53 s hs1 hs2 hc hd⟩
      · exact ⟨_, octO_ok s 54 hs1, uqc_54 s hs1 hs2 hc hd⟩
      · exact ⟨_, octO_ok s 55 hs1, uqc_55 s hs1 hs2 hc hd⟩
      · exact ⟨_, uqOk_byte (by omega) (by omega), uqc_92 s hs1 hs2 hc hd⟩
      · exact ⟨none, uqOk_none s, uqc_39 s hs1 hs2 hc hd⟩
      · exact ⟨_, uqOk_byte (by omega) (by omega), uqc_34 s hs1 hs2 hc hd⟩
    · exact ⟨none, uqOk_none s, uqc_else s hs1 hs2 hc d hd hm⟩
  · exact ⟨_, uqOk_byte (by omega) (by omega), uqc_low s hs hs2 c hc (by omega) h34 h92⟩
/-- What UnquoteChar reads. -/
noncomputable def uqf (s : ByteArray) : Option (Int × Bool × ByteArray) := if h : s.size ≤ 1000000 then (uqc_ex s h).choose else none
theorem uqf_ok (s : ByteArray) : UqOk s (uqf s) := by
  unfold uqf
  split
  · rename_i h
    exact (uqc_ex s h).choose_spec.1
  · exact uqOk_none s
theorem uqf_c (s : ByteArray) (h : s.size ≤ 1000000) : UqC s (uqf s) := by
  unfold uqf
  rw [dif_pos h]
  exact (uqc_ex s h).choose_spec.2
end Go.Proofs.YtnmgocbmofbppaaGreatDoor
