/- unquote, at a quotation mark of two strokes. -/
import Derived.Test.YtnmgocbmofbppaaGreatDoorA15
import Derived.Test.YtnmgocbmofbppaaGreatDoorA11
import Derived.Test.YtnmgocbmofbppaaGreatDoorShelf
import Derived.Lib.Bytealg
import Derived.Lib.IndexBytes
import Derived.Lib.ValidU
import Derived.Deep.RegionHeldLaw
import Derived.Deep.RegionHeld3
import Derived.WalkMore
import Derived.KernelRfl
import Derived.Outline
import Derived.BigGuardPart
import Derived.Deep.DeepMust
import Derived.Deep.LoopGhost
import Derived.Deep.DeepCutAuto
import Derived.Deep.CutBlock
import Derived.Deep.QuietTactic
import Derived.BigQuiet
import Derived.Lib.Hide
import Derived.WalkSpells
import Derived.Deep.Light
import Derived.Deep.RegionWith
import Derived.WalkLawsBesides
import Derived.StillTailTactics

set_option linter.unusedVariables false
set_option linter.unusedSimpArgs false

namespace Go.Proofs.YtnmgocbmofbppaaGreatDoor
open Go.RowKit

set_option maxHeartbeats 1000000 in
set_option maxRecDepth 100000 in
theorem index_any (s : ByteArray) (c : Int) (w : World) : Calls Tryz.prog 79 #[.string s, .int .u8 c] w fun e w' => e = .returned (.int .i64 (Lib.indexByte s.data.toList c.toNat.toUInt8)) ∧ w' = w := by
  go_enter Tryz.func79, Tryz.ntmps79
  go_wp2
  rw [run_callFunc_extern Tryz.func85 (by kernel_rfl) (by kernel_rfl) (by kernel_rfl) (e := Extern.BytealgIndexByte.indexByte) (by kernel_rfl), Lib.run_indexByteString]
  simp only [Result.andThen]
  rw [Oper.upon_value]
  go_wp2
  go_ret
  exact ⟨rfl, rfl⟩
/-- A text has a byte. -/
def cont (s : ByteArray) (c : Int) : Bool := !(Lib.indexByte s.data.toList c.toNat.toUInt8 == -1)
set_option maxHeartbeats 1000000 in
set_option maxRecDepth 100000 in
theorem contains_any (s : ByteArray) (c : Int) (w : World) : Calls Tryz.prog 80 #[.string s, .int .u8 c] w fun e w' => e = .returned (.bool (cont s c)) ∧ w' = w := by
  go_enter Tryz.func80, Tryz.ntmps80
  go_wp2_with (go_at_call 79; refine (index_any s c w).mono ?_; rintro e w2 ⟨rfl, rfl⟩)
  go_ret
  exact ⟨rfl, rfl⟩
/-- The bytes that a read character adds. -/
def pieceU (r : Int) (mb : Bool) : List Int := if r < 128 ∨ mb = false then [r % 256] else Lib.encodeRuneZ r
/-- The text between the marks, character by character; n: more than the text's length. -/
noncomputable def slow : Nat → ByteArray → List Int → Option (List Int × ByteArray)
  | 0, _, _ => none
  | n + 1, s, buf => if s.size = 0 then none else if (s.get! 0).toNat = 34 then some (buf, s.extract 1 s.size) else match uqf s with
    | none => none
    | some (r, mb, t) => if (s.get! 0).toNat = 10 then none else slow n t (buf ++ pieceU r mb)
def plainOk (s : ByteArray) (e : Nat) : Bool := !cont (s.extract 0 e) 92 && !cont (s.extract 0 e) 10 && Lib.validD (s.extract 1 (e - 1)).data.toList
/-- What unquote reads. -/
noncomputable def unqf (s : ByteArray) : Option (ByteArray × ByteArray) :=
  let i := Lib.indexByte (s.extract 1 s.size).data.toList 34
  if i < 0 then none
  else if plainOk s (i + 2).toNat then some (s.extract 1 ((i + 2).toNat - 1), s.extract (i + 2).toNat s.size)
  else match slow (s.size + 1) (s.extract 1 s.size) [] with
    | none => none
    | some (b, t) => some (strOfNums b, t)
theorem res3 {fn : Func} {t u v : Tmp} (h : fn.results = #[.tmp t, .tmp u, .tmp v]) (tmps : Array Value) (P : Program) (w : World) :
    (results fn tmps).run P w = .ok (.tuple #[tmps.getD t undef, tmps.getD u undef, tmps.getD v undef]) w := by
  simp [results, h]
/-- What unquote leaves. -/
def UnPost (s : ByteArray) (o : Option (ByteArray × ByteArray)) (w : World) (e : Ending) (w' : World) : Prop :=
  Below w.heap.size w w' ∧ (∀ a r, o = some (a, r) → e = .returned (.tuple #[.string a, .string r, .nilIface])) ∧ (o = none → ∃ a, e = .returned (.tuple #[.string ⟨#[]⟩, .string s, .iface 154 (.pointer (some a))]))
/-- An owned row of bytes as a text. -/
theorem row_str {w : World} {base : Nat} {v : Value} {buf : List Int} (h : w.ownsRow base 5 1 v buf.length (buf.map (Value.int .u8))) : (convert 159 9 v).run Tryz.prog w = .ok (.string (strOfNums buf)) w := by
  rcases h.2 with ⟨hv, hn0⟩ | ⟨g, cap, cur, hv, hb, hg, _, _, hcs, htk⟩
  · rw [hv, run_convert_bytes_nil w 159 5 Tryz.underlying159 Tryz.underlying5 _ _ 9 Tryz.underlying9, List.length_eq_zero_iff.1 hn0]
    rfl
  · rw [hv]
    refine run_convert_bytes_arg w 159 5 Tryz.underlying159 Tryz.underlying5 g 0 _ cap buf rfl (fun i hi => ?_) 9 Tryz.underlying9
    have hf : (buf.map (Value.int .u8))[i]? = some (.int .u8 (buf.getD i 0)) := by simp [List.getD, List.getElem?_eq_getElem hi]
    rw [← htk, List.getElem?_take] at hf
    split at hf
    · simp only [World.cell?, hg]
      simpa using hf
    · cases hf
theorem info5 : (Tryz.prog.info? 5).map (fun i => (i.zero, i.size, i.bytes)) = some (some (.int .u8 0), 1, 1) := by kernel_rfl
set_option maxHeartbeats 4000000 in
set_option maxRecDepth 100000 in
theorem unquote_any (s : ByteArray) (h2 : 2 ≤ s.size) (hs : s.size ≤ 10000) (h34 : (s[0].toNat : Int) = 34) (w : World) (hT : ∀ w', Below w.heap.size w w' → Lib.Utf8Tabs 6 7 w') (hE : ErrS w) : Calls Tryz.prog 73 #[.string s, .bool true] w (UnPost s (unqf s) w) := by
  obtain ⟨ea, hea⟩ := hE
  obtain ⟨i, hi⟩ : ∃ i, Lib.indexByte (s.extract 1 s.size).data.toList 34 = i := ⟨_, rfl⟩
  have hi' : Lib.indexByte (s.extract 1 s.size).data.toList (Int.toNat 34).toUInt8 = i := hi
  have HT := Lib.hid hT
  clear hT
  by_cases hneg : i < 0
  ·
    have hun : unqf s = none := by unfold unqf; simp only [hi, hneg, if_true]
    rw [hun]
    go_enter Tryz.func73, Tryz.ntmps73
    go_wp2_with (go_at_call 79; refine (index_any _ 34 w).mono ?_; rintro e w2 ⟨rfl, rfl⟩; rw [hi'])
    have he2 : w2.drew.cell? ⟨5, 0, none⟩ = some (.iface 154 (.pointer (some ea))) := hea
    go_region_held3 (fun w' => w'.cell? ⟨5, 0, none⟩ = some (.iface 154 (.pointer (some ea)))) (with_reducible exact he2) (fail)
    all_goals
      go_wp2_with fail
      (try simp only [Exit.inBlock, Exit.then])
      refine bodyPost_ret (res3 rfl _ _ _) rfl ?_
      exact ⟨(Below.refl _ _).drew, (fun a r e => by cases e), fun _ => ⟨ea, rfl⟩⟩
  · obtain ⟨k, rfl⟩ : ∃ k : Nat, i = k := ⟨i.toNat, by omega⟩
    have hk : k + 2 ≤ s.size := by
      rcases Lib.indexByte_piece s 1 s.size 34 with h | ⟨o, h, h3⟩
      · rw [hi] at h; omega
      · rw [hi] at h; omega
    obtain ⟨E, hE⟩ : ∃ E, s.extract 0 (k + 2) = E := ⟨_, rfl⟩
    have hkz : (k : Int) + 2 ≤ (s.size : Int) := by omega
    have h0k : (0 : Int) ≤ (k : Int) + 2 := by omega
    have hes : E.size = k + 2 := by rw [← hE]; simp; omega
    have hesz : (k : Int) + 2 - 1 ≤ (E.size : Int) := by omega
    have hex : E.extract 1 (k + 1) = s.extract 1 (k + 1) := by rw [← hE, ByteArray.extract_extract]; congr 1; omega
    have hun : unqf s = if (!cont E 92 && !cont E 10 && Lib.validD (s.extract 1 (k + 1)).data.toList) = true then some (s.extract 1 (k + 1), s.extract (k + 2) s.size) else match slow (s.size + 1) (s.extract 1 s.size) [] with
        | none => none
        | some (b, t) => some (strOfNums b, t) := by
      unfold unqf
      simp only [hi, show ((k : Int) < 0) = False from by simp, if_false, show ((k : Int) + 2).toNat = k + 2 from by omega, plainOk, hE, show k + 2 - 1 = k + 1 from rfl]
    go_enter Tryz.func73, Tryz.ntmps73
    go_upto_region 25 with (go_at_call 79; refine (index_any _ 34 w).mono ?_; rintro e w2 ⟨rfl, rfl⟩; rw [hi'])
    go_cut [99] (fun s99 wx => s99 = .bool (!cont E 92 && !cont E 10) ∧ w2 = wx)
    case first =>
      cases h92 : cont E 92 with
      | true =>
        go_wp2_with (go_at_call 80; refine (contains_any _ _ _).mono ?_; rintro e w3 ⟨rfl, rfl⟩; rw [hE, h92])
        go_meet
        exact ⟨by rw [h92]; rfl, rfl⟩
      | false =>
        go_wp2_with (go_at_call 80; refine (contains_any _ _ _).mono ?_; rintro e w3 ⟨rfl, rfl⟩; rw [hE]; try rw [h92])
        go_meet
        exact ⟨by rw [h92]; rfl, rfl⟩
    case rest =>
      obtain ⟨rfl, rfl⟩ := hcut
      have hV : ∀ w', Below w2.heap.size w2 w' → Calls Tryz.prog 81 #[.string (s.extract 1 (k + 1))] w' fun e w'' => e = .returned (.bool (Lib.validD (s.extract 1 (k + 1)).data.toList)) ∧ Below w'.heap.size w' w'' := fun w' hb => Tryz.utf8_ValidString _ w' (by simp; omega) (HT.out w' hb)
      have HV := Lib.hid hV
      clear hV
      go_upto_if 99 with fail
      go_cut [] (fun wx => Below w2.heap.size w2 wx ∧ unqf s = match slow (s.size + 1) (s.extract 1 s.size) [] with
              | none => none
              | some (b, t) => some (strOfNums b, t))
      case first =>
        cases hpl : (!cont E 92 && !cont E 10) with
        | true =>
          cases hva : Lib.validD (s.extract 1 (k + 1)).data.toList with
          | true =>
            go_wp2_with (go_at_call 81; refine (HV.out _ (Below.refl _ _)).mono ?_; rintro e w3 ⟨rfl, hb3⟩; rw [hva])
            go_region_held3 (fun _ => True) (trivial) (fail)
            all_goals
              go_wp2_with fail
              (try simp only [Exit.inBlock, Exit.then])
              refine bodyPost_ret (res3 rfl _ _ _) rfl ?_
              have hr : unqf s = some (s.extract 1 (k + 1), s.extract (k + 2) s.size) := by rw [hun, hpl, hva]; rfl
              rw [hr]
              refine ⟨hb3.drew, fun a r e => ?_, fun e => by cases e⟩
              obtain ⟨rfl, rfl⟩ : s.extract 1 (k + 1) = a ∧ s.extract (k + 2) s.size = r := by simpa using e
              rfl
          | false =>
            go_wp2_with (go_at_call 81; refine (HV.out _ (Below.refl _ _)).mono ?_; rintro e w3 ⟨rfl, hb3⟩; rw [hva])
            go_meet
            exact ⟨hb3, by rw [hun, hpl, hva]; rfl⟩
        | false =>
          go_wp2_with fail
          go_meet
          exact ⟨Below.refl _ _, by rw [hun, hpl]; rfl⟩
      case rest =>
        obtain ⟨hb3, hr⟩ := hcut
        have HB3 := Lib.hid hb3
        have HBC := Lib.hid hb3.size
        have hk2 : 3 * ((k : Int) + 2) / 2 = ((3 * (k + 2) / 2 : Nat) : Int) := by omega
        obtain ⟨c, hc⟩ : ∃ c, 3 * (k + 2) / 2 = c := ⟨_, rfl⟩
        rw [hc] at hk2
        have hcb : c ≤ 1000000 := by omega
        have hg5 : (5 : Nat) < w2.heap.size := World.block_lt_of_cell? w2 _ hea
        have hE : ∀ w', Below w2.heap.size w2 w' → ErrS w' := fun w' hb => ⟨ea, (World.cell?_of_block (hb.block 5 hg5)).trans hea⟩
        have HES := Lib.hid hE
        obtain ⟨R, hR⟩ : ∃ R, slow (s.size + 1) (s.extract 1 s.size) [] = R := ⟨_, rfl⟩
        rw [hR] at hr
        have HR := Lib.hid hr
        have HRR := Lib.hid hR
        clear hr hb3 hun hi hi' hc hea hE hR
        obtain ⟨i0, hi0, hz0, hz1, hz2⟩ := info_parts info5
        go_wp2_with (at_make; refine wpList_make_own _ rfl _ _ 159 rfl wc.heap.size 5 i0 (.int .u8 0) 1 Tryz.underlying159 hi0 hz0 hz1 _ _ _ c rfl rfl hk2 (by rw [hz2]; omega) (by unfold maxLen; omega) (Nat.le_refl _) ?_; intro w4 hown hg; refine Hid.out ?_)
        have hb4 : Below w2.heap.size w2 w4 := HB3.out.trans ((Below.refl _ _).grown hg HB3.out.size (by intro k hk; cases hk))
        have hs4 : wc.heap.size ≤ w4.heap.size := hg.size
        have HB4 := Lib.hid hb4
        have HO4 := Lib.hid hown
        clear hb4 hown hg HB3
        refine Lib.hid ?_
        go_wp2_with fail
        go_loopg [0, 14] (s.size + 1) (fun gk s0 s14 wx => ∃ (t : ByteArray) (buf : List Int), s0 = .string t ∧ Below w2.heap.size w2 wx ∧ wc.heap.size ≤ wx.heap.size ∧ wx.ownsRow wc.heap.size 5 1 s14 buf.length (buf.map (Value.int .u8)) ∧ slow gk t buf = R ∧ t.size < gk ∧ buf.length ≤ 3 * (s.size - t.size) ∧ t.size ≤ s.size)
        case atStart => exact ⟨_, [], rfl, HB4.out, hs4, HO4.out, HRR.out, by simp; omega, by simp, by simp⟩
        case round =>
          clear HRR HO4 HB4 hs4
          obtain ⟨t, buf, rfl, hb, hsz, hown, hsl, hg, hbl, hts⟩ := hrel
          obtain ⟨g', rfl⟩ : ∃ g', gk = g' + 1 := ⟨gk - 1, by omega⟩
          have HOWN := Lib.hid hown
          have HSL := Lib.hid hsl
          have HB := Lib.hid hb
          clear hown hsl hb
          by_cases h0 : t.size = 0
          ·
            have hz : decide ((0 : Int) < (t.size : Int)) = false := decide_eq_false (by omega)
            obtain ⟨eb, heb⟩ := HES.out _ HB.out
            have heb2 : wr.drew.cell? ⟨5, 0, none⟩ = some (.iface 154 (.pointer (some eb))) := heb
            have hRn : R = none := by rw [← HSL.out]; unfold slow; rw [if_pos h0]
            go_wp2_with fail
            go_region_held3 (fun w' => w'.cell? ⟨5, 0, none⟩ = some (.iface 154 (.pointer (some eb)))) (with_reducible exact heb2) (fail)
            all_goals
              go_wp2_with fail
              (try simp only [Exit.inBlock, Exit.then])
              refine bodyPost_ret (res3 rfl _ _ _) rfl ?_
              rw [HR.out, hRn]
              exact ⟨HB.out.drew, (fun a r e => by cases e), fun _ => ⟨eb, rfl⟩⟩
          · have hpos : 0 < t.size := by omega
            have hz : decide ((0 : Int) < (t.size : Int)) = true := decide_eq_true (by omega)
            have hget : t.get! 0 = t[0] := Utf8W.get!_of_lt t 0 hpos
            by_cases h34t : (t[0].toNat : Int) = 34
            ·
              have hRs : R = some (buf, t.extract 1 t.size) := by
                rw [← HSL.out]
                unfold slow
                rw [if_neg h0, hget, if_pos (by omega)]
              have hcv : (convert 159 9 u14).run Tryz.prog wr = .ok (.string (strOfNums buf)) wr := row_str HOWN.out
              go_wp2_with fail
              (try simp only [Exit.inBlock, Exit.then])
              refine bodyPost_ret (res3 rfl _ _ _) rfl ?_
              rw [HR.out, hRs]
              refine ⟨HB.out, fun a r e => ?_, fun e => by cases e⟩
              obtain ⟨rfl, rfl⟩ : strOfNums buf = a ∧ t.extract 1 t.size = r := by simpa using e
              rfl
            · have hn34 : ((t[0].toNat : Int) == 34) = false := by rw [beq_eq_false_iff_ne]; exact h34t
              have hts6 : t.size ≤ 1000000 := by omega
              have hc82 := uqf_c t hts6 wr (HT.out _ HB.out) (HES.out _ HB.out)
              have hok := uqf_ok t
              obtain ⟨eb, heb⟩ := HES.out _ HB.out
              cases huq : uqf t with
              | none =>
                rw [huq] at hc82
                have hRn : R = none := by
                  rw [← HSL.out]
                  unfold slow
                  rw [if_neg h0, hget, if_neg (by omega), huq]
                have HC82 := Lib.hid hc82
                clear hc82
                go_upto_region 45 with (go_at_call 82; refine HC82.out.mono ?_; rintro e w5 ⟨hb5, _, h2⟩; obtain ⟨a, rfl⟩ := h2 rfl)
                obtain ⟨eb, heb⟩ := HES.out _ (HB.out.trans (hb5.mono HB.out.size))
                have heb2 : w5.drew.cell? ⟨5, 0, none⟩ = some (.iface 154 (.pointer (some eb))) := heb
                have hb6 := HB.out.trans (hb5.mono HB.out.size)
                have HB6 := Lib.hid hb6
                clear hb6 hb5
                by_cases h10 : (t[0].toNat : Int) = 10
                · go_wp2_with fail
                  go_region_held3 (fun w' => w'.cell? ⟨5, 0, none⟩ = some (.iface 154 (.pointer (some eb)))) (with_reducible exact heb2) (fail)
                  all_goals
                    go_wp2_with fail
                    (try simp only [Exit.inBlock, Exit.then])
                    refine bodyPost_ret (res3 rfl _ _ _) rfl ?_
                    rw [HR.out, hRn]
                    exact ⟨HB6.out.drew, (fun a r e => by cases e), fun _ => ⟨eb, rfl⟩⟩
                · have hn10 : ((t[0].toNat : Int) == 10) = false := by rw [beq_eq_false_iff_ne]; exact h10
                  go_wp2_with fail
                  go_region_held3 (fun w' => w'.cell? ⟨5, 0, none⟩ = some (.iface 154 (.pointer (some eb)))) (with_reducible exact heb2) (fail)
                  all_goals
                    go_wp2_with fail
                    (try simp only [Exit.inBlock, Exit.then])
                    refine bodyPost_ret (res3 rfl _ _ _) rfl ?_
                    rw [HR.out, hRn]
                    exact ⟨HB6.out.drew, (fun a r e => by cases e), fun _ => ⟨eb, rfl⟩⟩
              | some o =>
                obtain ⟨r, mb, rem⟩ := o
                rw [huq] at hc82 hok
                obtain ⟨hrem, hmb⟩ := hok r mb rem rfl
                have HC82 := Lib.hid hc82
                clear hc82 hok
                go_upto_region 45 with (go_at_call 82; refine HC82.out.mono ?_; rintro e w5 ⟨hb5, h2, _⟩; obtain rfl := h2 r mb rem rfl)
                obtain ⟨eb, heb⟩ := HES.out _ (HB.out.trans (hb5.mono HB.out.size))
                have heb2 : w5.drew.cell? ⟨5, 0, none⟩ = some (.iface 154 (.pointer (some eb))) := heb
                have hb6 := HB.out.trans (hb5.mono HB.out.size)
                have hs5 : wc.heap.size ≤ w5.heap.size := Nat.le_trans hsz hb5.size
                have hown5 := ownG_below HOWN.out hb5
                have HB6 := Lib.hid hb6
                have HO5 := Lib.hid hown5
                clear hb6 hb5 hown5
                by_cases h10 : (t[0].toNat : Int) = 10
                ·
                  have hRn : R = none := by
                    rw [← HSL.out]
                    unfold slow
                    rw [if_neg h0, hget, if_neg (by omega), huq]
                    simp only
                    rw [if_pos (by omega)]
                  go_wp2_with fail
                  go_region_held3 (fun w' => w'.cell? ⟨5, 0, none⟩ = some (.iface 154 (.pointer (some eb)))) (with_reducible exact heb2) (fail)
                  all_goals
                    go_wp2_with fail
                    (try simp only [Exit.inBlock, Exit.then])
                    refine bodyPost_ret (res3 rfl _ _ _) rfl ?_
                    rw [HR.out, hRn]
                    exact ⟨HB6.out.drew, (fun a r e => by cases e), fun _ => ⟨eb, rfl⟩⟩
                · have hn10 : ((t[0].toNat : Int) == 10) = false := by rw [beq_eq_false_iff_ne]; exact h10
                  have hsl : slow g' rem (buf ++ pieceU r mb) = R := by
                    rw [← HSL.out]
                    conv => rhs; unfold slow
                    rw [if_neg h0, hget, if_neg (by omega), huq]
                    simp only
                    rw [if_neg (by omega)]
                  have HSL2 := Lib.hid hsl
                  clear hsl
                  by_cases hr128 : r < 128
                  · have hp : pieceU r mb = [r % 256] := if_pos (.inl hr128)
                    go_wp2_with (at_builtin; refine wpList_append_lies _ rfl (.tmp 186) (.tmp 189) 159 rfl wc.heap.size 5 i0 _ 1 1 Tryz.underlying159 hi0 hz0 hz1 hz2 rfl (by decide) u14 buf.length (buf.map (Value.int .u8)) rfl (HO5.out.alloc _) ⟨w5.heap.size, 0, none⟩ 1 1 [.int .u8 (r % 256)] rfl rfl (World.news_of_block (by simpa using heap_alloc_new w5 _)) (by simp [Value.oneCell']) (by decide) (by unfold maxLen; omega) (by omega) (by simp; omega) _ rfl ?_; intro g9 cap9 w9 hown9 hg9 hat hlt9; refine Hid.out ?_)
                    have hb9 : Below w2.heap.size w2 w9 := (HB6.out.alloc HB6.out.size _).grown hg9 (by have := HB6.out.size; simp; omega) (fun k hk => by have := HO5.out.lt k hk; have := HBC.out; omega)
                    have hs9 : wc.heap.size ≤ w9.heap.size := by have := hg9.size; simp at this; omega
                    have hown9 : w9.ownsRow wc.heap.size 5 1 (.slice (some ⟨g9, 0, none⟩) (buf.length + 1) cap9) (buf ++ pieceU r mb).length ((buf ++ pieceU r mb).map (Value.int .u8)) := by rw [hp]; simpa [Lib.runeCells] using hown9
                    have HB9 := Lib.hid hb9
                    have HO9 := Lib.hid hown9
                    clear hb9 hown9 hg9
                    refine Lib.hid ?_
                    go_wp2_with fail
                    go_roundg g'
                    case measure => omega
                    case rel =>
                      refine ⟨rem, buf ++ pieceU r mb, rfl, HB9.out, hs9, HO9.out, HSL2.out, by omega, ?_, by omega⟩
                      rw [hp]
                      simp
                      omega
                  · cases mb with
                    | false =>
                      have hp : pieceU r false = [r % 256] := if_pos (.inr rfl)
                      go_wp2_with (at_builtin; refine wpList_append_lies _ rfl (.tmp 186) (.tmp 189) 159 rfl wc.heap.size 5 i0 _ 1 1 Tryz.underlying159 hi0 hz0 hz1 hz2 rfl (by decide) u14 buf.length (buf.map (Value.int .u8)) rfl (HO5.out.alloc _) ⟨w5.heap.size, 0, none⟩ 1 1 [.int .u8 (r % 256)] rfl rfl (World.news_of_block (by simpa using heap_alloc_new w5 _)) (by simp [Value.oneCell']) (by decide) (by unfold maxLen; omega) (by omega) (by simp; omega) _ rfl ?_; intro g9 cap9 w9 hown9 hg9 hat hlt9; refine Hid.out ?_)
                      have hb9 : Below w2.heap.size w2 w9 := (HB6.out.alloc HB6.out.size _).grown hg9 (by have := HB6.out.size; simp; omega) (fun k hk => by have := HO5.out.lt k hk; have := HBC.out; omega)
                      have hs9 : wc.heap.size ≤ w9.heap.size := by have := hg9.size; simp at this; omega
                      have hown9 : w9.ownsRow wc.heap.size 5 1 (.slice (some ⟨g9, 0, none⟩) (buf.length + 1) cap9) (buf ++ pieceU r false).length ((buf ++ pieceU r false).map (Value.int .u8)) := by rw [hp]; simpa [Lib.runeCells] using hown9
                      have HB9 := Lib.hid hb9
                      have HO9 := Lib.hid hown9
                      clear hb9 hown9 hg9
                      refine Lib.hid ?_
                      go_wp2_with fail
                      go_roundg g'
                      case measure => omega
                      case rel =>
                        refine ⟨rem, buf ++ pieceU r false, rfl, HB9.out, hs9, HO9.out, HSL2.out, by omega, ?_, by omega⟩
                        rw [hp]
                        simp
                        omega
                    | true =>
                      have hp : pieceU r true = Lib.encodeRuneZ r := if_neg (by simp; omega)
                      obtain ⟨m1, m2, m3⟩ := hmb rfl
                      go_wp2_with (go_at_call 83; refine (Tryz.utf8_AppendRune_plain wc.heap.size u14 buf.length (buf.map (Value.int .u8)) r m1 m2 w5 HO5.out (by omega) hs5).mono ?_; rintro e w9 ⟨v9, rfl, hown9, o9, hg9⟩; refine Hid.out ?_)
                      have hb9 : Below w2.heap.size w2 w9 := (HB6.out.alloc HB6.out.size _).grown hg9 (by have := HB6.out.size; simp; omega) (fun k hk => by have := HO5.out.lt k hk; have := HBC.out; omega)
                      have hs9 : wc.heap.size ≤ w9.heap.size := by have := hg9.size; simp at this; omega
                      have hown9 : w9.ownsRow wc.heap.size 5 1 v9 (buf ++ pieceU r true).length ((buf ++ pieceU r true).map (Value.int .u8)) := by rw [hp]; simpa [Lib.runeCells] using hown9
                      have HB9 := Lib.hid hb9
                      have HO9 := Lib.hid hown9
                      clear hb9 hown9 hg9
                      refine Lib.hid ?_
                      go_wp2_with fail
                      go_roundg g'
                      case measure => omega
                      case rel =>
                        refine ⟨rem, buf ++ pieceU r true, rfl, HB9.out, hs9, HO9.out, HSL2.out, by omega, ?_, by omega⟩
                        rw [hp]
                        simp
                        simp [Lib.runeCells] at m3
                        omega
end Go.Proofs.YtnmgocbmofbppaaGreatDoor
