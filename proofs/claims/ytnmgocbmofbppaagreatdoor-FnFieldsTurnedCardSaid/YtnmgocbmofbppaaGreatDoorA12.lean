/- T1 -/
import Derived.Test.YtnmgocbmofbppaaGreatDoorProg
import Derived.Test.YtnmgocbmofbppaaGreatDoorA01
import Derived.KernelRfl
import Derived.Outline
import Derived.BigGuardPart
import Derived.Deep.DeepMust
import Derived.Deep.LoopGhost
import Derived.Deep.DeepCutAuto
import Derived.Deep.CutBlock
import Derived.Deep.QuietTactic
import Derived.BigQuiet
import Derived.Lib.Hide
import Derived.WalkSpells
import Derived.Deep.Light
import Derived.Deep.RegionWith
import Derived.WalkLawsBesides

set_option linter.unusedVariables false
set_option linter.unusedSimpArgs false

namespace Go.Proofs.YtnmgocbmofbppaaGreatDoor
open Go.RowKit

/-- A bool, whichever. -/
def SomeBool (w : World) (e : Ending) (w' : World) : Prop := ∃ b, e = .returned (.bool b) ∧ Below w.heap.size w w'
theorem someBool {w w' : World} (b : Bool) (h : Below w.heap.size w w') : SomeBool w (.returned (.bool b)) w' := ⟨b, rfl, h⟩

set_option maxHeartbeats 400000 in
theorem bitsRight_any (k n : Int) (s : ByteArray) (va vb : Value) (w : World) :
    Calls Tryz.prog 14 #[.agg #[.int .i64 k, .int .i64 n, .string s, va, vb]] w (SomeBool w) := by
  go_enter Tryz.func14, Tryz.ntmps14
  go_wp2
  all_goals
    go_ret
    exact someBool _ ((Below.refl _ _).alloc (Nat.le_refl _) _)

/-- A string, whichever. -/
def SomeStr (w : World) (e : Ending) (w' : World) : Prop := ∃ b, e = .returned (.string b) ∧ Below w.heap.size w w'
theorem someStr {w w' : World} (b : ByteArray) (h : Below w.heap.size w w') : SomeStr w (.returned (.string b)) w' := ⟨b, rfl, h⟩

theorem embeddedName_plain (k n : Int) (s : ByteArray) (va vb : Value) (w : World) (hk : k ≠ 12) :
    Calls Tryz.prog 15 #[.agg #[.int .i64 k, .int .i64 n, .string s, va, vb]] w (SomeStr w) := by
  go_enter Tryz.func15, Tryz.ntmps15
  go_wp2
  all_goals
    go_ret
    exact someStr _ ((Below.refl _ _).alloc (Nat.le_refl _) _)

theorem embeddedName_ptr (n : Int) (s : ByteArray) (b off : Nat) (l c : Nat) (vb : Value) (w : World) (k' n' : Int) (s' : ByteArray) (A' B' : Option Addr) (la' ca' lb' cb' : Nat) (hl : 0 < l) (ha : b < w.heap.size)
    (h0 : w.cell? ⟨b, off, none⟩ = some (.int .i64 k')) (h1 : w.cell? ⟨b, off + 1, none⟩ = some (.int .i64 n')) (h2 : w.cell? ⟨b, off + 2, none⟩ = some (.string s')) (h3 : w.cell? ⟨b, off + 3, none⟩ = some (.slice A' la' ca')) (h4 : w.cell? ⟨b, off + 4, none⟩ = some (.slice B' lb' cb')) :
    Calls Tryz.prog 15 #[.agg #[.int .i64 12, .int .i64 n, .string s, .slice (some ⟨b, off, none⟩) l c, vb]] w (SomeStr w) := by
  go_enter Tryz.func15, Tryz.ntmps15
  go_wp2
  all_goals
    go_ret
    exact someStr _ ((Below.refl _ _).alloc (Nat.le_refl _) _)

theorem embeddedName_any (T : Ty) (cs : List Value) (w : World) (hT : TyV w (· < w.heap.size) T cs) (hw : T.wf) : Calls Tryz.prog 15 #[.agg cs.toArray] w (SomeStr w) := by
  cases T with
  | mk k n s of fs =>
  obtain ⟨A, co, B, cf, rfl, _, hof, _⟩ := hT
  by_cases hk : k = 12
  · subst hk
    obtain ⟨_, hl, _, _, _⟩ := hw
    simp at hl
    obtain ⟨t, rfl⟩ : ∃ t, of = [t] := List.length_eq_one_iff.1 hl
    obtain ⟨b, off, A', ca, B', cb, rfl, ha, _, h⟩ := TysV.at_ (j := 0) hof rfl
    simp only [Nat.zero_mul, Nat.add_zero] at h
    exact embeddedName_ptr n s b off _ _ _ w _ _ _ A' B' _ _ _ _ (by simp) ha h.c0 h.c1 h.c2 h.c3 h.c4
  · exact embeddedName_plain k n s _ _ w hk

def want (k : Int) : Nat := if k = 9 ∨ k = 10 ∨ k = 12 then 1 else 0
/-- An int that laws.typeLeft hands back. -/
def LeftIs (T : Ty) (left : Int) (w : World) (e : Ending) (w' : World) : Prop :=
  ∃ r, e = .returned (.int .i64 r) ∧ (-140737488351232 ≤ r ∧ r ≤ 1500) ∧ (0 ≤ r → T.wf ∧ r + T.sz = left) ∧ Below w.heap.size w w'

/-- The five cells of a box that was laid, behind a call. -/
theorem box5 {w w' : World} {a b c d e : Value} {t : TypeId} (hb : Below (w.alloc (.cells #[a, b, c, d, e] t)).heap.size (w.alloc (.cells #[a, b, c, d, e] t)) w') :
    (w'.cell? ⟨w.heap.size, 0, none⟩ = some a ∧ w'.cell? ⟨w.heap.size, 1, none⟩ = some b ∧ w'.cell? ⟨w.heap.size, 2, none⟩ = some c ∧ w'.cell? ⟨w.heap.size, 3, none⟩ = some d ∧ w'.cell? ⟨w.heap.size, 4, none⟩ = some e) ∧ w.heap.size < w'.heap.size := by
  have hs := hb.size
  simp at hs
  refine ⟨⟨?_, ?_, ?_, ?_, ?_⟩, by omega⟩
  all_goals
    rw [hb.cell (by simp)]
    simp [go_sem]
/-- A box of five cells of this world. -/
def Box5 (w : World) (B : Nat) (a b c d e : Value) : Prop :=
  w.cell? ⟨B, 0, none⟩ = some a ∧ w.cell? ⟨B, 1, none⟩ = some b ∧ w.cell? ⟨B, 2, none⟩ = some c ∧ w.cell? ⟨B, 3, none⟩ = some d ∧ w.cell? ⟨B, 4, none⟩ = some e
theorem Box5.new (w : World) (a b c d e : Value) (t : TypeId) : Box5 (w.alloc (.cells #[a, b, c, d, e] t)) w.heap.size a b c d e := by
  refine ⟨?_, ?_, ?_, ?_, ?_⟩ <;> simp [go_sem]
theorem Box5.below {w w' : World} {B : Nat} {a b c d e : Value} (h : Box5 w B a b c d e) {n : Nat} (hb : Below n w w') (hn : B < n) : Box5 w' B a b c d e := by
  obtain ⟨h0, h1, h2, h3, h4⟩ := h
  refine ⟨?_, ?_, ?_, ?_, ?_⟩
  all_goals
    rw [hb.cell (by simpa using hn)]
    assumption

theorem tl_k {k : Int} (h : (k != 14) = false) : k = 14 := by simpa using h
theorem tl_e {s : ByteArray} (h : (!s.toList.isEmpty) = false) : s.size = 0 := by
  have : s.toList = [] := by simpa using h
  rw [ByteArray.toList_eq] at this
  show s.data.size = 0
  rw [← Array.length_toList, this]; rfl
theorem tl_step {of : List Ty} {fs : List Fl} {j : Nat} {f : Fl} {r r1 left : Int} (hf : fs[j]? = some f) (hR : 0 ≤ r → (wfs of ∧ wff (fs.take j)) ∧ r + szs of + szf (fs.take j) = left - 1) (h0 : 0 ≤ r)
    (h1 : 0 ≤ r1 → f.t.wf ∧ r1 + f.t.sz = r - f.name.size - f.tag.size) : 0 ≤ r1 → (wfs of ∧ wff (fs.take (j + 1))) ∧ r1 + szs of + szf (fs.take (j + 1)) = left - 1 := by
  intro h
  obtain ⟨⟨a, b⟩, c⟩ := hR h0
  obtain ⟨d, e⟩ := h1 h
  rw [take_snoc hf, wff_append, szf_append]
  cases f with
  | mk name tag emb t =>
  refine ⟨⟨a, b, d, trivial⟩, ?_⟩
  simp only [szf, Fl.sz, Fl.name, Fl.tag, Fl.t] at *
  omega
theorem tl_end {k n : Int} {s : ByteArray} {of : List Ty} {fs : List Fl} {r left : Int} {w w' : World} (hS : s.size = 0 ∨ k = 14) (hQ : 0 ≤ left - 1 ∧ (1 ≤ k ∧ k ≤ 15) ∧ of.length = want k ∧ (k ≠ 13 → fs = []))
    (hs : s.size ≤ 140737488351232) (hr : -140737488351232 ≤ r ∧ r ≤ 1500) (hR : 0 ≤ r → (wfs of ∧ wff fs) ∧ r + szs of + szf fs = left - 1) (hn : r < 0 → 0 < of.length ∨ 0 < fs.length) (hB : Below w.heap.size w w') : LeftIs (.mk k n s of fs) left w (.returned (.int .i64 (r - s.size))) w' := by
  obtain ⟨hl, hk, hw, hf⟩ := hQ
  have h14 : k = 14 → 0 ≤ r := by
    rintro rfl
    rcases Int.lt_or_le r 0 with h | h
    · have h2 := hf (by decide)
      subst h2
      have h3 := hn h
      simp [want] at hw
      subst hw
      simp at h3
    · exact h
  refine ⟨_, rfl, ⟨?_, by omega⟩, fun h => ?_, hB⟩
  · rcases hS with h | h
    · omega
    · have := h14 h; omega
  · obtain ⟨⟨a, b⟩, c⟩ := hR (by omega)
    refine ⟨⟨hk, hw, hf, a, b⟩, ?_⟩
    simp only [Ty.sz]
    omega
/-- The eight cells of a box that was laid, behind a call. -/
theorem box8 {w w' : World} {a b c d e f g h : Value} {t : TypeId} (hb : Below (w.alloc (.cells #[a, b, c, d, e, f, g, h] t)).heap.size (w.alloc (.cells #[a, b, c, d, e, f, g, h] t)) w') :
    w'.cell? ⟨w.heap.size, 0, none⟩ = some a ∧ w'.cell? ⟨w.heap.size, 1, none⟩ = some b ∧ w'.cell? ⟨w.heap.size, 2, none⟩ = some c ∧ w'.cell? ⟨w.heap.size, 3, none⟩ = some d ∧
    w'.cell? ⟨w.heap.size, 4, none⟩ = some e ∧ w'.cell? ⟨w.heap.size, 5, none⟩ = some f ∧ w'.cell? ⟨w.heap.size, 6, none⟩ = some g ∧ w'.cell? ⟨w.heap.size, 7, none⟩ = some h := by
  refine ⟨?_, ?_, ?_, ?_, ?_, ?_, ?_, ?_⟩
  all_goals
    rw [hb.cell (by simp)]
    simp [go_sem]
theorem tl_close {left k : Int} {m n : Nat} {fs : List Fl} (h1 : 0 ≤ left - 1) (h2 : 1 ≤ k ∧ k ≤ 15) (h3 : (m : Int) = (n : Int)) (h4 : k ≠ 13 → fs = []) : 0 ≤ left - 1 ∧ (1 ≤ k ∧ k ≤ 15) ∧ m = n ∧ (k ≠ 13 → fs = []) :=
  ⟨h1, h2, by omega, h4⟩

set_option maxHeartbeats 8000000 in
set_option maxRecDepth 100000 in
theorem typeLeft_any (N : Nat) : ∀ (T : Ty) (cs : List Value) (left : Int) (w : World), T.sz ≤ N → TyV w (· < w.heap.size) T cs → -1125899906842624 ≤ left → left ≤ 1500 →
    Calls Tryz.prog 6 #[.agg cs.toArray, .int .i64 left] w (LeftIs T left w) := by
  induction N with
  | zero => intro T _ _ _ h; have := T.sz_pos; omega
  | succ N ih =>
    intro T cs left w hN hT hl0 hl1
    cases T with
    | mk k n s of fs =>
    obtain ⟨A, co, B, cf, rfl, hbig, hof, hfs⟩ := hT
    have IH := Lib.hid ih
    clear ih
    go_enter Tryz.func6, Tryz.ntmps6
    go_upto_region 0 with fail
    go_cut [2, 4] (fun s2 s4 wx => s2 = .pointer (some ⟨w.heap.size, 0, none⟩) ∧ s4 = .int .i64 0 ∧ Below w.heap.size w wx ∧ w.heap.size < wx.heap.size ∧ Box5 wx w.heap.size (.int .i64 k) (.int .i64 n) (.string s) (.slice A of.length co) (.slice B fs.length cf))
    case first =>
      as_aux_lemma =>
        go_wp2
        go_meet
        exact ⟨rfl, rfl, (Below.refl _ _).alloc (Nat.le_refl _) _, by simp, Box5.new _ _ _ _ _ _ _⟩
    case rest =>
    obtain ⟨rfl, rfl, hB, hsz, hbox⟩ := hcut
    have ⟨c0, c1, c2, c3, c4⟩ := hbox
    have HB := Lib.hid hB
    have HX := Lib.hid hbox
    clear hB hbox
    have hbig : s.size ≤ 140737488351232 ∧ of.length ≤ 140737488351232 ∧ fs.length ≤ 140737488351232 := hbig
    go_upto_region 2 with fail
    go_cut [43] (fun s43 wx => ∃ b, s43 = .bool b ∧ (b = false → s.size = 0 ∨ k = 14) ∧ wx = wc)
    case first =>
      as_aux_lemma =>
        obtain ⟨qs, hqs⟩ : ∃ b, (!s.toList.isEmpty) = b := ⟨_, rfl⟩
        obtain ⟨qk, hqk⟩ : ∃ b, (k != 14) = b := ⟨_, rfl⟩
        have HS := Lib.hid hqs
        have HK := Lib.hid hqk
        go_wp2
        all_goals
          go_meet
          refine ⟨_, rfl, fun hh => ?_, rfl⟩
          first
            | exact absurd hh (by decide)
            | (have h1 : qk = false := by assumption
               exact Or.inr (tl_k (HK.out.trans h1)))
            | (have h1 : qs = false := by assumption
               exact Or.inl (tl_e (HS.out.trans h1)))
    case rest =>
      obtain ⟨b, rfl, hS, rfl⟩ := hcut
      cases b with
      | true =>
        go_wp2
        go_ret
        exact ⟨-1, rfl, ⟨by decide, by decide⟩, fun h => absurd h (by decide), HB.out⟩
      | false =>
      have HS := Lib.hid (hS rfl)
      clear hS
      go_upto_region 5 with fail
      go_cut [56] (fun s56 wx => s56 = .bool (decide (k = 9 ∨ k = 10 ∨ k = 12)) ∧ wx = wc)
      case first =>
        as_aux_lemma =>
          go_wp2
          all_goals
            go_meet
            refine ⟨?_, rfl⟩
            first | (simp [*]; done) | (simp [*]; rw [Bool.eq_iff_iff]; simp)
      case rest =>
      obtain ⟨rfl, rfl⟩ := hcut
      go_upto_if 56 with fail
      go_cut [5] (fun s5 wx => s5 = .int .i64 (want k) ∧ wx = wc)
      case first =>
        as_aux_lemma =>
          go_wp2
          all_goals
            go_meet
            refine ⟨?_, rfl⟩
            simp [want, *]
      case rest =>
      obtain ⟨rfl, rfl⟩ := hcut
      go_upto_region 7 with fail
      go_cut [96] (fun s96 wx => ∃ b, s96 = .bool b ∧ (b = false → 0 ≤ left - 1 ∧ (1 ≤ k ∧ k ≤ 15) ∧ of.length = want k ∧ (k ≠ 13 → fs = [])) ∧ Below w.heap.size w wx ∧ w.heap.size < wx.heap.size ∧ Box5 wx w.heap.size (.int .i64 k) (.int .i64 n) (.string s) (.slice A of.length co) (.slice B fs.length cf))
      case first =>
        as_aux_lemma =>
          obtain ⟨q13, h13⟩ : ∃ b, (k != 13) = b := ⟨_, rfl⟩
          have H13 := Lib.hid h13
          go_wp2_with (go_at_call 14; refine (bitsRight_any _ _ _ _ _ _).mono ?_; rintro e w1 ⟨b1, rfl, hb1⟩; have hx1 := HX.out.below hb1 hsz; have hB1 := HB.out.trans (hb1.mono (Nat.le_of_lt hsz)); have hs1 := Nat.lt_of_lt_of_le hsz hb1.size; have ⟨d0, d1, d2, d3, d4⟩ := hx1; have HX1 := Lib.hid hx1; have HB1 := Lib.hid hB1; have TT : True := trivial; clear hx1 hB1 hb1)
          all_goals go_meet
          all_goals (refine ⟨_, rfl, ?_, ?_⟩; intro hh)
          all_goals first | (exact absurd hh (by decide)) | skip
          all_goals first | (exact ⟨HB.out, hsz, HX.out⟩) | (exact ⟨HB1.out, hs1, HX1.out⟩) | skip
          · exact tl_close ‹_› (by omega) ‹_› (fun hk => by have hq : q13 = true := (by assumption); have := H13.out.trans hq; exact List.eq_nil_of_length_eq_zero (by have := of_decide_eq_false hh; omega))
          · exact tl_close ‹_› (by omega) ‹_› (fun hk => absurd (H13.out.trans (by assumption)) (by simpa using hk))
      case rest =>
      obtain ⟨b, rfl, hq, hB, hsz1, hbox⟩ := hcut
      clear hsz c0 c1 c2 c3 c4 HB HX
      have ⟨c0, c1, c2, c3, c4⟩ := hbox
      have HB := Lib.hid hB
      have HX := Lib.hid hbox
      clear hB hbox
      cases b with
      | true =>
        clear hq
        go_wp2
        go_ret
        exact ⟨-1, rfl, ⟨by decide, by decide⟩, fun h => absurd h (by decide), HB.out⟩
      | false =>
      have HQ := Lib.hid (hq rfl)
      clear hq
      have hle := HQ.out.1
      go_upto_block 0 with fail
      go_cut [1, 6] (fun l _ wx => ∃ r : Int, l = .int .i64 r ∧ (-140737488351232 ≤ r ∧ r ≤ 1500) ∧ (0 ≤ r → wfs of ∧ r + szs of = left - 1) ∧ (r < 0 → 0 < of.length) ∧ Below w.heap.size w wx ∧ w.heap.size < wx.heap.size ∧ Box5 wx w.heap.size (.int .i64 k) (.int .i64 n) (.string s) (.slice A of.length co) (.slice B fs.length cf))
      case first =>
        as_aux_lemma =>
          go_wp2
          go_loopw [1, 6] (fun l i wr => ∃ (j : Nat) (r : Int), l = .int .i64 r ∧ i = .int .i64 j ∧ j ≤ of.length ∧ (-140737488351232 ≤ r ∧ r ≤ 1500) ∧ (0 ≤ r → wfs (of.take j) ∧ r + szs (of.take j) = left - 1) ∧ (r < 0 → 0 < of.length) ∧ Below w.heap.size w wr ∧ w.heap.size < wr.heap.size ∧ Box5 wr w.heap.size (.int .i64 k) (.int .i64 n) (.string s) (.slice A of.length co) (.slice B fs.length cf)) (fun _ i _ => of.length - (intOf i).toNat)
          case atStart => exact ⟨0, left - 1, rfl, rfl, Nat.zero_le _, by omega, fun _ => ⟨by simp [wfs], by simp [szs]⟩, fun h => by omega, HB.out, hsz1, HX.out⟩
          case round =>
            clear c0 c1 c2 c3 c4 HB HX hsz1
            obtain ⟨j, r, rfl, rfl, hj, hr, hR, hneg, hB, hsz, hbox⟩ := hrel
            have ⟨c0, c1, c2, c3, c4⟩ := hbox
            have HB := Lib.hid hB
            have HX := Lib.hid hbox
            have HR := Lib.hid hR
            clear hB hbox hR
            by_cases hlt : j < of.length
            · by_cases hr0 : 0 ≤ r
              · obtain ⟨t, ht⟩ : ∃ t, of[j]? = some t := ⟨_, List.getElem?_eq_getElem hlt⟩
                obtain ⟨b0, off, A', ca, B', cb, rfl, ha, hts, hcell⟩ := TysV.at_ hof ht
                have ⟨e0, e1, e2, e3, e4⟩ := hcell
                rw [← HB.out.cell (p := ⟨_, _, _⟩) ha] at e0 e1 e2 e3 e4
                have HT := Lib.hid ht
                have hts' : TyV wr (· < wr.heap.size) t _ := TyV.keep (fun b hb => ⟨by have := HB.out.size; omega, HB.out.block b hb⟩) _ _ hts
                have hsz' : t.sz ≤ N := by have := szs_mem of j t ht; simp only [Ty.sz] at hN; omega
                clear ht hcell
                have HC := Lib.hid (IH.out t _ r wr hsz' hts' (by omega) hr.2)
                clear hts' hsz' hts
                go_wp2_with (go_at_call 6; refine HC.out.mono ?_; rintro e w1 ⟨r1, rfl, hr1, hw1, hb1⟩; have hx1 := HX.out.below hb1 hsz; have hB1 := HB.out.trans (hb1.mono (Nat.le_of_lt hsz)); have hs1 := Nat.lt_of_lt_of_le hsz hb1.size; have ⟨d0, d1, d2, d3, d4⟩ := hx1; have HX1 := Lib.hid hx1; have HB1 := Lib.hid hB1; have HW1 := Lib.hid hw1; clear hx1 hB1 hb1 hw1)
                go_roundw
                case rel =>
                  refine ⟨j + 1, r1, rfl, by go_num, by omega, hr1, fun h0 => ?_, fun _ => by omega, HB1.out, hs1, HX1.out⟩
                  obtain ⟨hw, hs⟩ := HW1.out h0
                  obtain ⟨hw', hs'⟩ := HR.out hr0
                  rw [take_snoc HT.out, wfs_append, szs_append]
                  exact ⟨⟨hw', hw, trivial⟩, by simp only [szs]; omega⟩
                case measure => simp [intOf]; omega
              · go_wp2
                go_meet
                exact ⟨r, rfl, hr, fun h => by omega, hneg, HB.out, hsz, HX.out⟩
            · have hje : of.take j = of := List.take_of_length_le (by omega)
              rw [hje] at HR
              clear hje
              go_wp2
              go_meet
              exact ⟨r, rfl, hr, HR.out, hneg, HB.out, hsz, HX.out⟩
      case rest =>
      clear c0 c1 c2 c3 c4 HB HX hsz1
      obtain ⟨r0, rfl, hr0, hR0, hneg0, hB, hsz1, hbox⟩ := hcut
      have ⟨c0, c1, c2, c3, c4⟩ := hbox
      have HB := Lib.hid hB
      have HX := Lib.hid hbox
      have HR0 := Lib.hid hR0
      clear hB hbox hR0
      go_upto_region 13 with fail
      go_wp2
      go_loopw [1, 7] (fun l i wr => ∃ (j : Nat) (r : Int), l = .int .i64 r ∧ i = .int .i64 j ∧ j ≤ fs.length ∧ (-140737488351232 ≤ r ∧ r ≤ 1500) ∧ (0 ≤ r → (wfs of ∧ wff (fs.take j)) ∧ r + szs of + szf (fs.take j) = left - 1) ∧ (r < 0 → 0 < of.length ∨ 0 < fs.length) ∧ Below w.heap.size w wr ∧ w.heap.size < wr.heap.size ∧ Box5 wr w.heap.size (.int .i64 k) (.int .i64 n) (.string s) (.slice A of.length co) (.slice B fs.length cf)) (fun _ i _ => fs.length - (intOf i).toNat)
      case atStart => exact ⟨0, r0, rfl, rfl, Nat.zero_le _, hr0, fun h => ⟨⟨(HR0.out h).1, by simp [wff]⟩, by have := (HR0.out h).2; simp [szf]; omega⟩, fun h => Or.inl (hneg0 h), HB.out, hsz1, HX.out⟩
      case round =>
        as_aux_lemma =>
          clear c0 c1 c2 c3 c4 HB HX hsz1 HR0 hr0 hneg0
          obtain ⟨j, r, rfl, rfl, hj, hr, hR, hneg, hB, hsz, hbox⟩ := hrel
          have ⟨c0, c1, c2, c3, c4⟩ := hbox
          have HB := Lib.hid hB
          have HX := Lib.hid hbox
          have HR := Lib.hid hR
          clear hB hbox hR
          by_cases hlt : j < fs.length
          · by_cases hr0 : 0 ≤ r
            · obtain ⟨f, hf⟩ : ∃ f, fs[j]? = some f := ⟨_, List.getElem?_eq_getElem hlt⟩
              obtain ⟨b0, off, A', ca, B', cb, rfl, ha, hn, hts, hcell⟩ := FlsV.at_ hfs hf
              have hn : f.name.size ≤ 140737488351232 ∧ f.tag.size ≤ 140737488351232 := hn
              have ⟨e0, e1, e2, e3, e4, e5, e6, e7⟩ := hcell
              rw [← HB.out.cell (p := ⟨_, _, _⟩) ha] at e0 e1 e2 e3 e4 e5 e6 e7
              have hts' : ∀ o, TyV (wr.alloc o) (· < (wr.alloc o).heap.size) f.t _ := fun o => TyV.keep (fun b hb => ⟨by have := HB.out.size; simp; omega, (Below.heap_alloc wr o b (by omega)).trans (HB.out.block b hb)⟩) _ _ hts
              have hsz' : f.t.sz ≤ N := by have := szf_mem fs j f hf; cases f; simp only [Ty.sz, Fl.sz, Fl.t] at *; omega
              have HF := Lib.hid hf
              clear hf hcell
              go_wp2_with fail
              refine (IH.out f.t _ _ _ hsz' (hts' _) (by omega) (by omega)).mono ?_
              rintro e w1 ⟨r1, rfl, hr1, hw1, hb1⟩
              have hx1 := (HX.out.below ((Below.refl _ _).alloc (Nat.le_refl _) _) hsz).below hb1 (by simp; omega)
              have hB1 := HB.out.trans ((((Below.refl wr.heap.size wr).alloc (Nat.le_refl _) _).trans (hb1.mono (by simp))).mono (Nat.le_of_lt hsz))
              have hs1 : w.heap.size < w1.heap.size := by have := hb1.size; simp at this; omega
              have hwr : wr.heap.size < w1.heap.size := by have := hb1.size; simp at this; omega
              have ⟨f0, f1, f2, f3, f4, f5, f6, f7⟩ := box8 hb1
              have ⟨d0, d1, d2, d3, d4⟩ := hx1
              have HX1 := Lib.hid hx1
              have HB1 := Lib.hid hB1
              have HW1 := Lib.hid hw1
              clear hx1 hB1 hb1 hw1 hts' hsz' e0 e1 e2 e3 e4 e5 e6 e7 c0 c1 c2 c3 c4
              by_cases hr10 : 0 ≤ r1
              · have hd : decide (0 ≤ r1) = true := decide_eq_true hr10
                cases hemb : f.emb with
                | true =>
                  rw [hemb] at f2
                  clear hemb
                  have hts1 := TyV.keep (w' := w1) (ok' := (· < w1.heap.size)) (fun b hb => ⟨by have := HB.out.size; have := HB1.out.size; omega, HB1.out.block b hb⟩) _ _ hts
                  have HT1 := Lib.hid hts1
                  clear hts1
                  go_wp2_with fail
                  go_region_with (go_at_call 15; go_must (refine (embeddedName_any f.t _ _ HT1.out.drew (HW1.out hr10).1).mono ?_; rintro e w2 ⟨str, rfl, hb20⟩; have hb2 := below_of_drew hb20; have hB2 := HB1.out.trans (hb2.mono (Nat.le_of_lt hs1)); have hX2 := HX1.out.below hb2 hs1; have hs2 := Nat.lt_of_lt_of_le hs1 hb2.size; have g0 := (hb2.cell (p := ⟨wr.heap.size, 0, none⟩) hwr).trans f0; have HB2 := Lib.hid hB2; have HX2 := Lib.hid hX2; clear hb2 hb20 hB2 hX2))
                  all_goals
                    go_wp2
                    · go_ret
                      exact ⟨-1, rfl, ⟨by decide, by decide⟩, fun h => absurd h (by decide), HB2.out⟩
                    · go_roundw
                      case rel => exact ⟨j + 1, r1, rfl, by go_num, by omega, hr1, tl_step HF.out HR.out hr0 HW1.out, fun _ => Or.inr (by omega), HB2.out, hs2, HX2.out⟩
                      case measure => simp [intOf]; omega
                | false =>
                  rw [hemb] at f2
                  clear hemb
                  go_wp2_with fail
                  go_quiet (fail)
                  go_wp2
                  go_roundw
                  case rel => exact ⟨j + 1, r1, rfl, by go_num, by omega, hr1, tl_step HF.out HR.out hr0 HW1.out, fun _ => Or.inr (by omega), below_drewN HB1.out _, hs1, HX1.out⟩
                  case measure => simp [intOf]; omega
              · have hd : decide (0 ≤ r1) = false := decide_eq_false hr10
                go_wp2_with fail
                go_quiet (fail)
                go_wp2
                go_roundw
                case rel => exact ⟨j + 1, r1, rfl, by go_num, by omega, hr1, fun h => by omega, fun _ => Or.inr (by omega), below_drewN HB1.out _, hs1, HX1.out⟩
                case measure => simp [intOf]; omega
            · go_wp2
              go_ret
              exact tl_end HS.out HQ.out hbig.1 hr (fun h => by omega) hneg HB.out
          · have hje : fs.take j = fs := List.take_of_length_le (by omega)
            rw [hje] at HR
            clear hje
            go_wp2
            go_ret
            exact tl_end HS.out HQ.out hbig.1 hr HR.out hneg HB.out
end Go.Proofs.YtnmgocbmofbppaaGreatDoor
