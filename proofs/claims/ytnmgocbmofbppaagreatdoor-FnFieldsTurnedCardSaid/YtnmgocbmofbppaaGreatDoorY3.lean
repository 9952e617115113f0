/- apart. -/
import Derived.Test.YtnmgocbmofbppaaGreatDoorA13
import Derived.KernelRfl
import Derived.Outline
import Derived.BigGuardPart
import Derived.Deep.DeepMust
import Derived.Deep.LoopGhost
import Derived.Deep.DeepCutAuto
import Derived.Deep.CutBlock
import Derived.Deep.QuietTactic
import Derived.BigQuiet
import Derived.Lib.Hide
import Derived.WalkSpells
import Derived.Deep.Light
import Derived.Deep.RegionWith
import Derived.WalkLawsBesides
import Derived.StillTailTactics

set_option linter.unusedVariables false
set_option linter.unusedSimpArgs false

namespace Go.Proofs.YtnmgocbmofbppaaGreatDoor
open Go.RowKit

set_option maxHeartbeats 1600000 in
set_option maxRecDepth 100000 in
theorem apart_any (ls : List Nat) (A : Option Addr) (c : Nat) (w : World) (hlen : ls.length ≤ 1000000) (hls : ∀ n ∈ ls, n ≤ 1000000)
    (h : ∀ (j n : Nat), ls[j]? = some n → ∃ g o B d, A = some ⟨g, o, none⟩ ∧ w.cell? ⟨g, o + j * 6 + 5, none⟩ = some (.slice B n d)) :
    Calls Tryz.prog 13 #[.slice A ls.length c] w fun e w' => e = .returned (.bool (ls.all fun n => n == 1)) ∧ w = w' := by
  obtain ⟨q, hq⟩ : ∃ q, (ls.all fun n => n == 1) = q := ⟨_, rfl⟩
  rw [hq]
  have H := Lib.hid h
  clear h
  go_enter Tryz.func13, Tryz.ntmps13
  go_wp2_with fail
  go_loopw [3] (fun s3 wr => ∃ j : Nat, s3 = .int .i64 j ∧ j ≤ ls.length ∧ w = wr ∧ ((ls.drop j).all fun n => n == 1) = q) (fun s3 _ => ls.length - (intOf s3).toNat)
  case atStart => exact ⟨0, rfl, Nat.zero_le _, rfl, hq⟩
  case round =>
    obtain ⟨j, rfl, hj, rfl, hall⟩ := hrel
    clear hq
    by_cases hlt : j < ls.length
    · obtain ⟨n, hn⟩ : ∃ n, ls[j]? = some n := ⟨_, List.getElem?_eq_getElem hlt⟩
      obtain ⟨g, o, B, d, rfl, hc⟩ := H.out j n hn
      have hnb := hls n (List.mem_of_getElem? hn)
      have hdr : ls.drop j = n :: ls.drop (j + 1) := by
        rw [List.drop_eq_getElem_cons hlt]
        congr 1
        rw [List.getElem?_eq_getElem hlt] at hn
        exact Option.some.inj hn
      rw [hdr, List.all_cons] at hall
      clear hdr hn hls
      by_cases h1 : n = 1
      · subst h1
        have ha : ((ls.drop (j + 1)).all fun n => n == 1) = q := by simpa using hall
        have HA := Lib.hid ha
        clear ha hall
        go_wp2_with fail
        go_roundw
        case rel => exact ⟨j + 1, by go_num, by omega, trivial, HA.out⟩
        case measure => simp [intOf]; omega
      · obtain rfl : false = q := by rw [← hall]; simp [h1]
        clear hall
        go_wp2_with fail
        go_ret
        exact ⟨rfl, rfl⟩
    · have hdr : ls.drop j = [] := List.drop_eq_nil_of_le (by omega)
      rw [hdr] at hall
      obtain rfl : true = q := by simpa using hall
      go_wp2_with fail
      go_ret
      exact ⟨rfl, rfl⟩
end Go.Proofs.YtnmgocbmofbppaaGreatDoor
