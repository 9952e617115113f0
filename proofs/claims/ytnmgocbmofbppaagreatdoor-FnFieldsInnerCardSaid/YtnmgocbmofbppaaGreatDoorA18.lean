/- Get of a struct tag, at the key xml. -/
import Derived.Test.YtnmgocbmofbppaaGreatDoorA17

set_option linter.unusedVariables false
set_option linter.unusedSimpArgs false

namespace Go.Proofs.YtnmgocbmofbppaaGreatDoor
open Go.RowKit

/-- The first place from i on where p does not hold. -/
def scanW (p : UInt8 → Bool) (t : ByteArray) : Nat → Nat → Nat
  | 0, i => i
  | n + 1, i => if i < t.size then (if p (t.get! i) then scanW p t n (i + 1) else i) else i
/-- The end of a quoted text. -/
def scanQ (t : ByteArray) : Nat → Nat → Nat
  | 0, i => i
  | n + 1, i => if i < t.size then (if (t.get! i).toNat = 34 then i else if (t.get! i).toNat = 92 then scanQ t n (i + 2) else scanQ t n (i + 1)) else i
def isSp (b : UInt8) : Bool := decide (b.toNat = 32)
def isNm (b : UInt8) : Bool := decide (32 < b.toNat) && decide (b.toNat ≠ 58) && decide (b.toNat ≠ 34) && decide (b.toNat ≠ 127)
abbrev xmlKey : ByteArray := ⟨#[120, 109, 108]⟩
/-- The name is told; u: the rest, from the mark on. -/
def headK (name u : ByteArray) (k : Nat) : Option (ByteArray × ByteArray × ByteArray) := if u.size ≤ k then none else some (name, u.extract 0 (k + 1), u.extract (k + 1) u.size)
def badJ (t : ByteArray) (j : Nat) : Bool := decide (j = 0) || decide (t.size ≤ j + 1) || decide ((t.get! j).toNat ≠ 58) || decide ((t.get! (j + 1)).toNat ≠ 34)
def headJ (t : ByteArray) (j : Nat) : Option (ByteArray × ByteArray × ByteArray) :=
  if badJ t j then none else headK (t.extract 0 j) (t.extract (j + 1) t.size) (scanQ (t.extract (j + 1) t.size) ((t.extract (j + 1) t.size).size + 1) 1)
def headT (t : ByteArray) : Option (ByteArray × ByteArray × ByteArray) := if t.size = 0 then none else headJ t (scanW isNm t (t.size + 1) 0)
/-- One name and its quoted text at the beginning; the rest. -/
def getHead (t : ByteArray) : Option (ByteArray × ByteArray × ByteArray) := headT (t.extract (scanW isSp t (t.size + 1) 0) t.size)
noncomputable def getF : Nat → ByteArray → ByteArray
  | 0, _ => ⟨#[]⟩
  | n + 1, t => if t.size = 0 then ⟨#[]⟩ else match getHead t with
    | none => ⟨#[]⟩
    | some (name, q, rest) => if name = xmlKey then (unqR q).getD ⟨#[]⟩ else getF n rest
noncomputable def getO (n : Nat) : Option (ByteArray × ByteArray × ByteArray) → ByteArray
  | none => ⟨#[]⟩
  | some (name, q, rest) => if name = xmlKey then (unqR q).getD ⟨#[]⟩ else getF n rest
theorem getF_succ (n : Nat) (t : ByteArray) : getF (n + 1) t = if t.size = 0 then ⟨#[]⟩ else getO n (getHead t) := by
  conv => lhs; unfold getF
  split
  · rfl
  · cases getHead t with
    | none => rfl
    | some p => rfl
noncomputable def tgF (s : ByteArray) : ByteArray := getF (s.size + 1) s
theorem scanW_le (p : UInt8 → Bool) (t : ByteArray) : ∀ (n i : Nat), i ≤ t.size → i ≤ scanW p t n i ∧ scanW p t n i ≤ t.size
  | 0, i, h => ⟨Nat.le_refl _, h⟩
  | n + 1, i, h => by
    unfold scanW
    split
    · split
      · have := scanW_le p t n (i + 1) (by omega)
        omega
      · omega
    · omega
theorem emp_size (t : ByteArray) : t.toList.isEmpty = decide (t.size = 0) := by
  rw [ByteArray.toList_eq]
  have h : t.data.toList.length = t.size := by simp
  cases hl : t.data.toList with
  | nil => rw [hl] at h; simp at h; simp [← h]
  | cons a l =>
    rw [hl] at h
    have h2 : ¬ t.size = 0 := by simp at h; omega
    simp [h2]
theorem scanW_succ (p : UInt8 → Bool) (t : ByteArray) (n i : Nat) : scanW p t (n + 1) i = if (decide (i < t.size) && p (t.get! i)) = true then scanW p t n (i + 1) else i := by
  conv => lhs; unfold scanW
  by_cases h : i < t.size
  · rw [if_pos h, decide_eq_true h, Bool.true_and]
  · rw [if_neg h, decide_eq_false h, Bool.false_and]
    rfl
def quoteB (t : ByteArray) (i : Nat) : Bool := decide (i < t.size) && !decide ((t.get! i).toNat = 34)
theorem scanQ_succ (t : ByteArray) (n i : Nat) : scanQ t (n + 1) i = if quoteB t i then scanQ t n (if (t.get! i).toNat = 92 then i + 2 else i + 1) else i := by
  conv => lhs; unfold scanQ
  unfold quoteB
  by_cases h : i < t.size
  · rw [if_pos h, decide_eq_true h, Bool.true_and]
    by_cases h2 : (t.get! i).toNat = 34
    · rw [if_pos h2, decide_eq_true h2]
      rfl
    · rw [if_neg h2, decide_eq_false h2]
      by_cases h3 : (t.get! i).toNat = 92
      · rw [if_pos h3, if_pos h3]
        rfl
      · rw [if_neg h3, if_neg h3]
        rfl
  · rw [if_neg h, decide_eq_false h]
    rfl
theorem key_list : xmlKey.toList = [120, 109, 108] := by rw [ByteArray.toList_eq]
theorem str_eql {a b : ByteArray} : (a.toList == b.toList) = decide (b = a) := by
  by_cases h : b = a
  · subst h
    simp
  · rw [decide_eq_false h, Bool.eq_false_iff]
    exact fun e => h (AL.beq_iff.1 e).symm
set_option maxHeartbeats 4000000 in
set_option maxRecDepth 100000 in
theorem Get_any (s : ByteArray) (w : World) (hs : s.size ≤ 2000) (hT : ∀ w', Below w.heap.size w w' → Lib.Utf8Tabs 6 7 w') (hE : ErrS w) : Calls Tryz.prog 43 #[.string s, .string xmlKey] w fun e w' => e = .returned (.string (tgF s)) ∧ Below w.heap.size w w' := by
  obtain ⟨R, hR⟩ : ∃ R, getF (s.size + 1) s = R := ⟨_, rfl⟩
  rw [show tgF s = R from hR]
  have HT := Lib.hid hT
  have HE := Lib.hid hE
  have HR := Lib.hid hR
  clear hT hE hR
  go_enter Tryz.func43, Tryz.ntmps43
  go_wp2_with fail
  go_loopg [0] (s.size + 1) (fun gk s0 wx => w = wx ∧ ∃ t : ByteArray, s0 = .string t ∧ getF gk t = R ∧ t.size < gk ∧ t.size ≤ s.size)
  case atStart => exact ⟨rfl, s, rfl, HR.out, by omega, Nat.le_refl _⟩
  case round =>
    clear HR
    obtain ⟨rfl, t, rfl, hF, hg, hts⟩ := hrel
    obtain ⟨g', rfl⟩ : ∃ g', gk = g' + 1 := ⟨gk - 1, by omega⟩
    have HF := Lib.hid hF
    clear hF
    by_cases h0 : t.size = 0
    · have hem : t.toList.isEmpty = true := by rw [emp_size, h0]; rfl
      have hRe : R = ⟨#[]⟩ := by
        rw [← HF.out]
        rw [getF_succ, if_pos h0]
      go_wp2_with fail
      go_ret
      exact ⟨by rw [hRe]; rfl, Below.refl _ _⟩
    · have hem : t.toList.isEmpty = false := by rw [emp_size]; exact decide_eq_false h0
      obtain ⟨t1, ht1⟩ : ∃ t1, t.extract (scanW isSp t (t.size + 1) 0) t.size = t1 := ⟨_, rfl⟩
      have hF := HF.out
      rw [getF_succ, if_neg h0, show getHead t = headT t1 from by unfold getHead; rw [ht1]] at hF
      have HF1 := Lib.hid hF
      clear hF HF
      obtain ⟨I, hI⟩ : ∃ I, scanW isSp t (t.size + 1) 0 = I := ⟨_, rfl⟩
      rw [hI] at ht1
      have hIl : I ≤ t.size := by rw [← hI]; exact (scanW_le isSp t _ 0 (Nat.zero_le _)).2
      have HI := Lib.hid hI
      clear hI
      go_wp2_with fail
      go_loopg [5] (t.size + 1) (fun gk s5 wx => w = wx ∧ ∃ i : Nat, s5 = .int .i64 i ∧ i ≤ t.size ∧ gk = t.size + 1 - i ∧ scanW isSp t gk i = I)
      case atStart => exact ⟨rfl, 0, rfl, Nat.zero_le _, rfl, HI.out⟩
      case round =>
        clear HI
        obtain ⟨rfl, i, rfl, hi, hgk, hsc⟩ := hrel
        obtain ⟨g2, rfl⟩ : ∃ g2, gk = g2 + 1 := ⟨gk - 1, by omega⟩
        have hi0 : (0 : Int) ≤ (i : Int) := by omega
        rw [scanW_succ] at hsc
        have HSC := Lib.hid hsc
        clear hsc
        go_upto_region 3 with fail
        go_cut [21] (fun s21 wx => s21 = .bool (decide (i < t.size) && isSp (t.get! i)) ∧ w = wx)
        case first =>
          by_cases hlt : i < t.size
          · have hltz : (i : Int) < (t.size : Int) := by omega
            have hget : t.get! i = t[i] := Utf8W.get!_of_lt t i hlt
            obtain ⟨c, hc⟩ : ∃ c : Int, (t[i].toNat : Int) = c := ⟨_, rfl⟩
            have hsp : isSp (t.get! i) = (c == 32) := by
              rw [hget]
              unfold isSp
              rw [Bool.eq_iff_iff]
              simp
              omega
            go_wp2_with fail
            go_meet
            exact ⟨by rw [hsp, decide_eq_true hlt]; rfl, rfl⟩
          · have hltz : ¬ (i : Int) < (t.size : Int) := by omega
            go_wp2_with fail
            go_meet
            exact ⟨by rw [decide_eq_false hlt]; rfl, rfl⟩
        case rest =>
          obtain ⟨rfl, rfl⟩ := hcut
          cases hq : (decide (i < t.size) && isSp (t.get! i)) with
          | true =>
            have hlt : i < t.size := by simp at hq; exact hq.1
            have hsc := HSC.out
            rw [hq, if_pos rfl] at hsc
            go_wp2_with fail
            go_roundg g2
            case measure => omega
            case rel => exact ⟨rfl, i + 1, by go_num, by omega, by omega, hsc⟩
          | false =>
            have hsc := HSC.out
            rw [hq, if_neg (by decide)] at hsc
            subst hsc
            clear hq HSC
            have hs1 : t1.size ≤ t.size - i := by rw [← ht1]; simp
            by_cases h1 : t1.size = 0
            · have hem1 : t1.toList.isEmpty = true := by rw [emp_size, h1]; rfl
              have hRe : R = ⟨#[]⟩ := by
                rw [← HF1.out]
                unfold headT
                rw [if_pos h1]
                rfl
              go_wp2_with fail
              go_ret
              exact ⟨by rw [hRe]; rfl, Below.refl _ _⟩
            · have hem1 : t1.toList.isEmpty = false := by rw [emp_size]; exact decide_eq_false h1
              obtain ⟨J, hJ⟩ : ∃ J, scanW isNm t1 (t1.size + 1) 0 = J := ⟨_, rfl⟩
              have hF := HF1.out
              rw [show headT t1 = headJ t1 J from by unfold headT; rw [if_neg h1, hJ]] at hF
              have HF2 := Lib.hid hF
              have hJl : J ≤ t1.size := by rw [← hJ]; exact (scanW_le isNm t1 _ 0 (Nat.zero_le _)).2
              have HJ := Lib.hid hJ
              clear hF HF1 hJ
              have hiz : (i : Int) ≤ (t.size : Int) := by omega
              have htz : (i : Int).toNat = i := by omega
              go_wp2_with fail
              go_loopg [5] (t1.size + 1) (fun gk s5 wx => w = wx ∧ ∃ j : Nat, s5 = .int .i64 j ∧ j ≤ t1.size ∧ gk = t1.size + 1 - j ∧ scanW isNm t1 gk j = J)
              case atStart => exact ⟨rfl, 0, rfl, Nat.zero_le _, rfl, HJ.out⟩
              case round =>
                clear HJ
                obtain ⟨rfl, j, rfl, hj, hgk2, hsc⟩ := hrel
                obtain ⟨g3, rfl⟩ : ∃ g3, gk = g3 + 1 := ⟨gk - 1, by omega⟩
                have hj0 : (0 : Int) ≤ (j : Int) := by omega
                rw [scanW_succ] at hsc
                have HSC := Lib.hid hsc
                clear hsc
                go_upto_region 8 with fail
                go_cut [56] (fun s56 wx => s56 = .bool (decide (j < t1.size) && isNm (t1.get! j)) ∧ w = wx)
                case first =>
                  by_cases hlt : j < t1.size
                  · have hltz : (j : Int) < (t1.size : Int) := by omega
                    have hget : t1.get! j = t1[j] := Utf8W.get!_of_lt t1 j hlt
                    obtain ⟨c, hc⟩ : ∃ c : Int, (t1[j].toNat : Int) = c := ⟨_, rfl⟩
                    have hsp : isNm (t1.get! j) = (decide (32 < c) && !(c == 58) && !(c == 34) && !(c == 127)) := by
                      rw [hget]
                      unfold isNm
                      rw [Bool.eq_iff_iff]
                      simp
                      omega
                    by_cases q1 : 32 < c
                    · by_cases q2 : c = 58
                      · go_wp2_with fail
                        go_meet
                        exact ⟨by rw [hsp, decide_eq_true hlt, decide_eq_true q1, q2]; rfl, rfl⟩
                      · have q2' : (c == 58) = false := by rw [beq_eq_false_iff_ne]; exact q2
                        by_cases q3 : c = 34
                        · go_wp2_with fail
                          go_meet
                          exact ⟨by rw [hsp, decide_eq_true hlt, decide_eq_true q1, q3]; rfl, rfl⟩
                        · have q3' : (c == 34) = false := by rw [beq_eq_false_iff_ne]; exact q3
                          by_cases q4 : c = 127
                          · go_wp2_with fail
                            go_meet
                            exact ⟨by rw [hsp, decide_eq_true hlt, decide_eq_true q1, q4]; rfl, rfl⟩
                          · have q4' : (c == 127) = false := by rw [beq_eq_false_iff_ne]; exact q4
                            go_wp2_with fail
                            go_meet
                            exact ⟨by rw [hsp, decide_eq_true hlt, decide_eq_true q1, q2', q3', show (c != 127) = !(c == 127) from rfl, q4']; rfl, rfl⟩
                    · go_wp2_with fail
                      go_meet
                      exact ⟨by rw [hsp, decide_eq_true hlt, decide_eq_false (by omega : ¬ 32 < c)]; rfl, rfl⟩
                  · have hltz : ¬ (j : Int) < (t1.size : Int) := by omega
                    go_wp2_with fail
                    go_meet
                    exact ⟨by rw [decide_eq_false hlt]; rfl, rfl⟩
                case rest =>
                  obtain ⟨rfl, rfl⟩ := hcut
                  cases hq : (decide (j < t1.size) && isNm (t1.get! j)) with
                  | true =>
                    have hlt : j < t1.size := by simp at hq; exact hq.1
                    have hsc := HSC.out
                    rw [hq, if_pos rfl] at hsc
                    go_wp2_with fail
                    go_roundg g3
                    case measure => omega
                    case rel => exact ⟨rfl, j + 1, by go_num, by omega, by omega, hsc⟩
                  | false =>
                    have hsc := HSC.out
                    rw [hq, if_neg (by decide)] at hsc
                    subst hsc
                    clear hq HSC
                    go_upto_region 10 with fail
                    go_cut [80] (fun s80 wx => s80 = .bool (badJ t1 j) ∧ w = wx)
                    case first =>
                      by_cases q1 : j = 0
                      · subst q1
                        go_wp2_with fail
                        go_meet
                        exact ⟨rfl, rfl⟩
                      · have q1' : ((j : Int) == 0) = false := by rw [beq_eq_false_iff_ne]; omega
                        by_cases q2 : t1.size ≤ j + 1
                        · have q2' : (t1.size : Int) ≤ (j : Int) + 1 := by omega
                          go_wp2_with fail
                          go_meet
                          exact ⟨by unfold badJ; rw [decide_eq_true q2]; simp, rfl⟩
                        · have q2' : ¬ (t1.size : Int) ≤ (j : Int) + 1 := by omega
                          have hlt : j < t1.size := by omega
                          have hlt1 : j + 1 < t1.size := by omega
                          have hz1 : (j : Int) < (t1.size : Int) := by omega
                          have hz2' : (j : Int) + 1 < (t1.size : Int) := by omega
                          have hz3 : (0 : Int) ≤ (j : Int) + 1 := by omega
                          have hget : t1.get! j = t1[j] := Utf8W.get!_of_lt t1 j hlt
                          have hget1 : t1.get! (j + 1) = t1[j + 1] := Utf8W.get!_of_lt t1 (j + 1) hlt1
                          obtain ⟨c, hc⟩ : ∃ c : Int, (t1[j].toNat : Int) = c := ⟨_, rfl⟩
                          obtain ⟨d, hd⟩ : ∃ d : Int, (t1[j + 1].toNat : Int) = d := ⟨_, rfl⟩
                          have hb : badJ t1 j = (!(c == 58) || !(d == 34)) := by
                            unfold badJ
                            rw [decide_eq_false q1, decide_eq_false q2, hget, hget1, Bool.eq_iff_iff]
                            simp
                            omega
                          by_cases q3 : c = 58
                          · subst q3
                            go_wp2_with fail
                            go_meet
                            exact ⟨by rw [hb]; rfl, rfl⟩
                          · have q3' : (c == 58) = false := by rw [beq_eq_false_iff_ne]; exact q3
                            go_wp2_with fail
                            go_meet
                            exact ⟨by rw [hb, q3']; rfl, rfl⟩
                    case rest =>
                      obtain ⟨rfl, rfl⟩ := hcut
                      cases hbad : badJ t1 j with
                      | true =>
                        have hRe : R = ⟨#[]⟩ := by
                          rw [← HF2.out]
                          unfold headJ
                          rw [hbad]
                          rfl
                        go_wp2_with fail
                        go_ret
                        exact ⟨by rw [hRe]; rfl, Below.refl _ _⟩
                      | false =>
                        have hb := hbad
                        unfold badJ at hb
                        simp only [Bool.or_eq_false_iff, decide_eq_false_iff_not, Classical.not_not] at hb
                        obtain ⟨⟨⟨b1, b2⟩, b3⟩, b4⟩ := hb
                        obtain ⟨name, hname⟩ : ∃ name, t1.extract 0 j = name := ⟨_, rfl⟩
                        obtain ⟨u, hu⟩ : ∃ u, t1.extract (j + 1) t1.size = u := ⟨_, rfl⟩
                        obtain ⟨K, hK⟩ : ∃ K, scanQ u (u.size + 1) 1 = K := ⟨_, rfl⟩
                        have hF := HF2.out
                        rw [show headJ t1 j = headK name u K from by unfold headJ; rw [hbad, if_neg (by decide), hname, hu, hK]] at hF
                        have hus : u.size = t1.size - (j + 1) := by rw [← hu]; simp
                        have hu0 : (u.get! 0).toNat = 34 := by
                          rw [Utf8W.get!_of_lt u 0 (by omega), ← b4, Utf8W.get!_of_lt t1 (j + 1) (by omega)]
                          subst hu
                          rw [ByteArray.getElem_extract]
                        have husle : u.size < t1.size := by omega
                        have hupos : 0 < u.size := by omega
                        clear hus
                        have HF3 := Lib.hid hF
                        have HK := Lib.hid hK
                        have hjz : (j : Int) ≤ (t1.size : Int) := by omega
                        have hjz1 : (j : Int) + 1 ≤ (t1.size : Int) := by omega
                        have hjz0 : (0 : Int) ≤ (j : Int) + 1 := by omega
                        clear hF HF2 hK hbad
                        go_wp2_with fail
                        go_loopg [5] (u.size + 1) (fun gk s5 wx => w = wx ∧ ∃ k : Nat, s5 = .int .i64 k ∧ 1 ≤ k ∧ k ≤ u.size + 1 ∧ u.size + 2 ≤ gk + k ∧ scanQ u gk k = K)
                        case atStart => exact ⟨rfl, 1, rfl, by omega, by omega, by omega, HK.out⟩
                        case round =>
                          clear HK
                          obtain ⟨rfl, k, rfl, hk1, hk, hgk3, hsc⟩ := hrel
                          obtain ⟨g4, rfl⟩ : ∃ g4, gk = g4 + 1 := ⟨gk - 1, by omega⟩
                          have hk0 : (0 : Int) ≤ (k : Int) := by omega
                          rw [scanQ_succ] at hsc
                          have HSC := Lib.hid hsc
                          clear hsc
                          go_upto_region 14 with fail
                          go_cut [97] (fun s97 wx => s97 = .bool (quoteB u k) ∧ w = wx)
                          case first =>
                            by_cases hlt : k < u.size
                            · have hltz : (k : Int) < (u.size : Int) := by omega
                              have hget : u.get! k = u[k] := Utf8W.get!_of_lt u k hlt
                              obtain ⟨c, hc⟩ : ∃ c : Int, (u[k].toNat : Int) = c := ⟨_, rfl⟩
                              have hsp : quoteB u k = !(c == 34) := by
                                unfold quoteB
                                rw [hget, decide_eq_true hlt, Bool.eq_iff_iff]
                                simp
                                omega
                              go_wp2_with fail
                              go_meet
                              exact ⟨by rw [hsp]; rfl, rfl⟩
                            · have hltz : ¬ (k : Int) < (u.size : Int) := by omega
                              go_wp2_with fail
                              go_meet
                              exact ⟨by unfold quoteB; rw [decide_eq_false hlt]; rfl, rfl⟩
                          case rest =>
                            obtain ⟨rfl, rfl⟩ := hcut
                            have hsc := HSC.out
                            cases hq : quoteB u k with
                            | true =>
                              have hlt : k < u.size := by unfold quoteB at hq; simp at hq; exact hq.1
                              have hltz : (k : Int) < (u.size : Int) := by omega
                              have hget : u.get! k = u[k] := Utf8W.get!_of_lt u k hlt
                              rw [hq, if_pos rfl, hget] at hsc
                              obtain ⟨c, hc⟩ : ∃ c : Int, (u[k].toNat : Int) = c := ⟨_, rfl⟩
                              by_cases h92 : c = 92
                              · rw [if_pos (by omega)] at hsc
                                go_wp2_with fail
                                go_roundg g4
                                case measure => omega
                                case rel => exact ⟨rfl, k + 2, by go_num, by omega, by omega, by omega, hsc⟩
                              · have hn92 : (c == 92) = false := by rw [beq_eq_false_iff_ne]; exact h92
                                rw [if_neg (by omega)] at hsc
                                go_wp2_with fail
                                go_roundg g4
                                case measure => omega
                                case rel => exact ⟨rfl, k + 1, by go_num, by omega, by omega, by omega, hsc⟩
                            | false =>
                              rw [hq, if_neg (by decide)] at hsc
                              subst hsc
                              by_cases hend : u.size ≤ k
                              · have hendz : (u.size : Int) ≤ (k : Int) := by omega
                                have hRe : R = ⟨#[]⟩ := by
                                  rw [← HF3.out]
                                  unfold headK
                                  rw [if_pos hend]
                                  rfl
                                go_wp2_with fail
                                go_ret
                                exact ⟨by rw [hRe]; rfl, Below.refl _ _⟩
                              · have hendz : ¬ (u.size : Int) ≤ (k : Int) := by omega
                                have hz1 : (k : Int) + 1 ≤ (u.size : Int) := by omega
                                have hz2 : (0 : Int) ≤ (k : Int) + 1 := by omega
                                obtain ⟨q, hqd⟩ : ∃ q, u.extract 0 (k + 1) = q := ⟨_, rfl⟩
                                obtain ⟨rest, hrest⟩ : ∃ rest, u.extract (k + 1) u.size = rest := ⟨_, rfl⟩
                                have hqs : q.size = k + 1 := by rw [← hqd]; simp; omega
                                have hrs : rest.size = u.size - (k + 1) := by rw [← hrest]; simp
                                have hqs2 : 2 ≤ q.size := by omega
                                have hqs3 : q.size ≤ 10000 := by omega
                                have hrs2 : rest.size < t.size := by omega
                                have hF := HF3.out
                                rw [show headK name u k = some (name, q, rest) from by unfold headK; rw [if_neg hend, hqd, hrest]] at hF
                                have hq0 : ((q.get! 0).toNat : Int) = 34 := by
                                  rw [Utf8W.get!_of_lt q 0 (by omega)]
                                  rw [Utf8W.get!_of_lt u 0 (by omega)] at hu0
                                  subst hqd
                                  rw [ByteArray.getElem_extract]
                                  exact_mod_cast hu0
                                clear hqs hrs
                                by_cases hnm : name = xmlKey
                                · have hF : (unqR q).getD ⟨#[]⟩ = R := by
                                    unfold getO at hF
                                    simp only [hnm, if_true] at hF
                                    exact hF
                                  have hkey : (([120, 109, 108] : List UInt8) == name.toList) = true := by rw [← key_list, str_eql]; exact decide_eq_true hnm
                                  have hC := Unquote_any q hqs2 hqs3 (by rw [← Utf8W.get!_of_lt q 0 (by omega)]; exact hq0) w HT.out HE.out
                                  have HC := Lib.hid hC
                                  clear hC
                                  cases hun : unqR q with
                                  | none =>
                                    rw [hun] at hF
                                    go_wp2_with (go_at_call 62; refine HC.out.mono ?_; rintro e w2 ⟨hb2, _, h3⟩; obtain ⟨a, o, rfl⟩ := h3 hun)
                                    go_ret
                                    exact ⟨by rw [← hF]; rfl, hb2⟩
                                  | some o =>
                                    rw [hun] at hF
                                    go_wp2_with (go_at_call 62; refine HC.out.mono ?_; rintro e w2 ⟨hb2, h3, _⟩; obtain rfl := h3 o hun)
                                    go_ret
                                    exact ⟨by rw [← hF]; rfl, hb2⟩
                                · have hF : getF g' rest = R := by
                                    unfold getO at hF
                                    simp only [hnm, if_false] at hF
                                    exact hF
                                  have hkey : (([120, 109, 108] : List UInt8) == name.toList) = false := by rw [← key_list, str_eql]; exact decide_eq_false hnm
                                  go_wp2_with fail
                                  go_roundg g'
                                  case measure => omega
                                  case rel => exact ⟨rfl, rest, rfl, hF, by omega, by omega⟩
theorem getHead_size {t name q rest : ByteArray} (h : getHead t = some (name, q, rest)) : q.size + rest.size ≤ t.size := by
  unfold getHead headT at h
  split at h
  · cases h
  · unfold headJ at h
    split at h
    · cases h
    · unfold headK at h
      split at h
      · cases h
      · simp only [Option.some.injEq, Prod.mk.injEq] at h
        obtain ⟨_, rfl, rfl⟩ := h
        simp only [ByteArray.size_extract]
        omega
theorem getF_size : ∀ (n : Nat) (t : ByteArray), (getF n t).size ≤ 3 * t.size
  | 0, _ => Nat.zero_le _
  | n + 1, t => by
    rw [getF_succ]
    split
    · exact Nat.zero_le _
    · cases h : getHead t with
      | none => exact Nat.zero_le _
      | some p =>
        obtain ⟨name, q, rest⟩ := p
        have hs := getHead_size h
        rw [show getO n (some (name, q, rest)) = if name = xmlKey then (unqR q).getD ⟨#[]⟩ else getF n rest from rfl]
        split
        · cases hu : unqR q with
          | none => exact Nat.zero_le _
          | some o =>
            have := unqR_size hu
            show o.size ≤ 3 * t.size
            omega
        · have := getF_size n rest
          show (getF n rest).size ≤ 3 * t.size
          omega
theorem tgF_c (B : Nat) : TagC tgF B := ⟨fun s => getF_size _ _, fun s w hs hB ⟨T, hT⟩ => Get_any s w hs (fun w' hb => (hT w' (hb.mono hB)).2.1) (hT w (Below.refl _ _)).2.2⟩
theorem tgF_empty : tgF ⟨#[]⟩ = ⟨#[]⟩ := rfl
end Go.Proofs.YtnmgocbmofbppaaGreatDoor
