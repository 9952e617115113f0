/- xml.EscapeText, impl.EscapeText. spec.InRange. laws: FnEscapeBack: true, whatever the text. -/
import Derived.Test.YthhmnnojgjpibaaGreatDoorA22
import Derived.Test.YthhmnnojgjpibaaGreatDoorA08
import Derived.Test.YthhmnnojgjpibaaGreatDoorA21
import Derived.Lib.OthersKept
import Derived.Lib.RuneLoops
import Derived.Lib.RuneCount

set_option linter.unusedVariables false
set_option linter.unusedSimpArgs false

namespace Go.Proofs.YthhmnnojgjpibaaGreatDoor
open Go Go.RowKit Go.Lib

attribute [local go_sem ↓] Go.wp_at_zero Go.wp_at_succ
set_option maxHeartbeats 2000000 in
theorem xmlEscape_ok {R : Nat → Option Value} {b sb B0 cap : Nat} {v : List UInt8} {w : World} (h : EsS R b sb v [] w w) (hT : U8 B0 w) (hB : B0 ≤ b) (hg : Good v) (hv : v.length ≤ 1000) (hcap : v.length ≤ cap) :
    Calls Tryz.prog 8 #[.iface 47 (.pointer (some ⟨b, 0, none⟩)), .slice (some ⟨sb, 0, none⟩) v.length cap] w fun e w' => e = .returned .nilIface ∧ EsS R b sb v (esc v) w w' := by
  have H := Lib.hid (escapeText_ok h hT hB hg hv hcap)
  clear h hT hg
  go_enter Tryz.func8, Tryz.ntmps8
  go_wp2_with (go_at_call 17; refine H.out.mono ?_; rintro e w1 ⟨rfl, h1⟩; have H1 := Lib.hid h1; clear h1)
  go_ret
  exact ⟨rfl, H1.out⟩
/-- The text as a row, the buffer new. -/
theorem EsS.start (w : World) (v : List UInt8) : ∃ c U, (convert 9 39 (.string ⟨v.toArray⟩)).run Tryz.prog (w.alloc (.cells #[.slice none 0 0, .int .i64 0, .int .i8 0] 43)) = .ok (.slice (some ⟨w.heap.size + 1, 0, none⟩) v.length c) U ∧
    v.length ≤ c ∧ EsS (fun _ => none) w.heap.size (w.heap.size + 1) v [] U U ∧ Below w.heap.size w U := by
  obtain ⟨W, hW⟩ : ∃ W, W = w.alloc (.cells #[.slice none 0 0, .int .i64 0, .int .i8 0] 43) := ⟨_, rfl⟩
  have hs : (⟨v.toArray⟩ : ByteArray).size = v.length := by show v.toArray.size = _; simp
  have hWs : W.heap.size = w.heap.size + 1 := by rw [hW]; simp
  have hc := Lib.run_convert_string_bytes W 9 39 5 ⟨v.toArray⟩ Tryz.underlying9 Tryz.underlying39 Tryz.underlying5
  have hb := bytesWorld_below W 5 ⟨v.toArray⟩
  have hnew : W.heap[w.heap.size]? = some (.cells #[.slice none 0 0, .int .i64 0, .int .i8 0] 43 (0, 0)) := by rw [hW]; exact heap_alloc_new w _
  have hsz := bytesWorld_size W 5 ⟨v.toArray⟩
  have hcell := bytesWorld_cell W 5 ⟨v.toArray⟩
  rw [hs, hWs] at hc
  rw [hWs] at hb hsz hcell
  rw [← hW]
  refine ⟨_, _, hc, grownCap_ge _ _ _ _, ⟨⟨none, ⟨0, .inl ⟨rfl, rfl, LibA.three_whole ((hb.block _ (by omega)).trans hnew)⟩⟩, fun _ => rfl, fun g e => by cases e⟩, fun j x e => ?_, Ext.refl _ _, by omega, by omega, by omega⟩, ?_⟩
  · have hj := (List.getElem?_eq_some_iff.1 e).1
    have e2 := (List.getElem?_eq_some_iff.1 e).2
    rw [hcell j (by rw [hs]; exact hj)]
    have e3 : (⟨v.toArray⟩ : ByteArray).data.toList.getD j 0 = x := by simp [hj, e2]
    rw [e3]
  · exact (show Below w.heap.size w W by rw [hW]; exact ⟨rfl, rfl, rfl, by simp, fun k hk => Below.heap_alloc w _ k hk⟩).trans (hb.mono (by omega))
set_option maxHeartbeats 4000000 in
set_option maxRecDepth 100000 in
theorem escape_ok {B0 : Nat} {v : List UInt8} {w : World} (hT : U8 B0 w) (hB : B0 ≤ w.heap.size) (hg : Good v) (hne : v ≠ []) (hv : v.length ≤ 1000) :
    Calls Tryz.prog 6 #[.string ⟨v.toArray⟩] w fun e w' => e = .returned (.string ⟨(esc v).toArray⟩) ∧ Below w.heap.size w w' := by
  obtain ⟨c, U, hcv, hc, hE, hb⟩ := EsS.start w v
  have hT1 : U8 B0 U := fun w2 h2 => hT w2 ((hb.mono hB).trans h2)
  have H := Lib.hid (xmlEscape_ok hE hT1 hB hg hv hc)
  have HB := Lib.hid hb
  have hesc : esc v ≠ [] := by
    intro e
    cases v with
    | nil => exact hne rfl
    | cons x v =>
      have h1 := escB_pos x
      rw [esc_cons] at e
      rw [(List.append_eq_nil_iff.1 e).1] at h1
      exact absurd h1 (by decide)
  clear hE hT1 hT hg hb
  go_enter Tryz.func6, Tryz.ntmps6
  go_wp2_with (first | (go_at_call 9; refine HS.out.mono ?_; rintro e w2 ⟨rfl, q, rfl⟩) | (go_at_call 8; refine H.out.mono ?_; rintro e w1 ⟨rfl, h1⟩; obtain ⟨G, hbf, hGn, hGl⟩ := h1.buf; obtain ⟨g, rfl⟩ : ∃ g, G = some g := by {rcases hbf with ⟨lr, ⟨-, e2, -⟩ | ⟨g, cap, cur, e1, -⟩⟩; exact absurd e2 hesc; exact ⟨g, e1⟩}; have HS := Lib.hid (string_ok hbf); have HL := Lib.hid ((HB.out.trans ((h1.ext.below (fun k hk => by subst hk; exact Nat.le_refl _) HB.out.size)))); clear h1 hbf hGn hGl))
  go_ret
  exact ⟨rfl, HL.out.os, HL.out.tape, HL.out.output, HL.out.size, HL.out.block⟩

end Go.Proofs.YthhmnnojgjpibaaGreatDoor
namespace Go.Proofs.YthhmnnojgjpibaaGreatDoor
open Go Go.RowKit Go.Lib

attribute [local go_sem ↓] Go.wp_at_zero Go.wp_at_succ
/-- A truth value; true only in range. -/
def RngP (r : Nat) (e : Ending) : Prop := ∃ b, e = .returned (.bool b) ∧ (b = true → inR r = true)
set_option maxHeartbeats 4000000 in
theorem inRange_ok (r : Nat) (w : World) : Calls Tryz.prog 5 #[.int .i32 (r : Int)] w fun e w' => RngP r e ∧ w = w' := by
  by_cases h : inR r = true
  · have hb : ∀ b : Bool, b = true → inR r = true := fun _ _ => h
    have HB := Lib.hid hb
    clear hb h
    go_enter Tryz.func5, Tryz.ntmps5
    go_wp2
    all_goals
      go_ret
      exact ⟨⟨_, rfl, HB.out _⟩, rfl⟩
  · have h' := h
    simp only [inR, Bool.or_eq_true, Bool.and_eq_true, beq_iff_eq, decide_eq_true_eq, not_or, not_and] at h'
    obtain ⟨⟨⟨⟨⟨a1, a2⟩, a3⟩, a4⟩, a5⟩, a6⟩ := h'
    have e1 : ((r : Int) == 9) = false := by simp; omega
    have e2 : ((r : Int) == 10) = false := by simp; omega
    have e3 : ((r : Int) == 13) = false := by simp; omega
    have f1 : (32 : Int) ≤ (r : Int) → ¬ (r : Int) ≤ 55295 := fun q => by have := a4 (by omega); omega
    have f2 : (57344 : Int) ≤ (r : Int) → ¬ (r : Int) ≤ 65533 := fun q => by have := a5 (by omega); omega
    have f3 : (65536 : Int) ≤ (r : Int) → ¬ (r : Int) ≤ 1114111 := fun q => by have := a6 (by omega); omega
    clear a1 a2 a3 a4 a5 a6 h
    go_enter Tryz.func5, Tryz.ntmps5
    go_wp2
    all_goals
      go_ret
      refine ⟨⟨_, rfl, fun q => ?_⟩, rfl⟩
      revert q
      simp
      try omega

end Go.Proofs.YthhmnnojgjpibaaGreatDoor
namespace Go.Proofs.YthhmnnojgjpibaaGreatDoor
open Go Go.RowKit Go.Lib

attribute [local go_sem ↓] Go.wp_at_zero Go.wp_at_succ
/-- The law's answer. -/
def LawP (w : World) (e : Ending) (w' : World) : Prop := e = .returned (.bool true) ∧ Below w.heap.size w w'
/-- The law's document. -/
theorem doc_law (v : List UInt8) : ((((((⟨#[60, 97, 32, 98, 61, 34]⟩ : ByteArray) ++ ⟨(esc v).toArray⟩) ++ ⟨#[34, 32, 99, 61, 39]⟩) ++ ⟨(esc v).toArray⟩) ++ ⟨#[39, 62]⟩) ++ ⟨(esc v).toArray⟩ ++ ⟨#[60, 47, 97, 62]⟩ : ByteArray).data.toList = docB [(98, 34, v), (99, 39, v)] v := by
  rw [docB_law]
  simp [ByteArray.data_append]
set_option maxHeartbeats 8000000 in
set_option maxRecDepth 100000 in
theorem law_any (s : ByteArray) (w : World) {ev : Value} (hT : U8 w.heap.size w) (hev : EofV ev w) (hp : 0 < w.heap.size) :
    Calls Tryz.prog 3 #[.string s] w (LawP w) := by
  have hrd : ∀ W, Below w.heap.size w W → Calls Tryz.prog 4 #[] W fun e w' => e = .returned (.bool true) ∧ Below w.heap.size W w' := fun W hb => readsXML_ok hb.size hp (fun w2 h2 => hT w2 (hb.trans h2)) (hev.keep (hb.block 0 hp))
  have HRD := Lib.hid hrd
  have HT := Lib.hid hT
  have HV := Lib.hid hev
  clear hrd hT hev
  by_cases hbig : (2147483647 : Int) < (s.size : Int)
  · go_enter Tryz.func3, Tryz.ntmps3
    go_wp2
    go_ret
    exact ⟨rfl, Below.refl _ _⟩
  by_cases hlong : (1000 : Int) < (s.size : Int)
  · go_enter Tryz.func3, Tryz.ntmps3
    go_wp2_with (go_at_call 4; refine (HRD.out _ (Below.refl _ _)).mono ?_; rintro e w1 ⟨rfl, hb1⟩; have HB1 := Lib.hid hb1; clear hb1)
    go_ret
    exact ⟨rfl, HB1.out⟩
  by_cases hnil : s = ⟨#[]⟩
  · subst hnil
    go_enter Tryz.func3, Tryz.ntmps3
    go_wp2_with (go_at_call 4; refine (HRD.out _ (Below.refl _ _)).mono ?_; rintro e w1 ⟨rfl, hb1⟩; have HB1 := Lib.hid hb1; clear hb1)
    go_ret
    exact ⟨rfl, HB1.out⟩
  obtain ⟨v, hv⟩ : ∃ v, v = s.data.toList := ⟨_, rfl⟩
  have hvn : v ≠ [] := by
    rintro rfl
    apply hnil
    cases s with
    | mk d => have : d.toList = [] := hv.symm; rw [Array.toList_eq_nil_iff] at this; rw [this]
  have hne : s.toList.isEmpty = false := by
    rw [ByteArray.toList_eq, ← hv]
    cases hl : v with
    | nil => exact absurd hl hvn
    | cons _ _ => rfl
  have HVN := Lib.hid hvn
  have HVV := Lib.hid hv
  have HNIL := Lib.hid hnil
  clear hnil hvn hv
  go_enter Tryz.func3, Tryz.ntmps3
  go_wp2
  go_loopw [4] (fun _ wr => ∃ pos, wr.heap[w.heap.size]? = some (.stringIter s pos) ∧ Below w.heap.size w wr ∧ (Good (v.drop pos) → Good v)) (fun _ wr => s.size - wr.iterPos w.heap.size)
  case atStart => exact ⟨0, by simpa using World.iter_heap w s 0, (Below.refl _ _).alloc (Nat.le_refl _) _, by simp⟩
  case round =>
    obtain ⟨pos, hit, hbw, hgd⟩ := hrel
    have hsz1 : w.heap.size < wr.heap.size := (Array.getElem?_eq_some_iff.1 hit).1
    have HGD := Lib.hid hgd
    clear hgd
    by_cases hpos : pos < s.size
    · have hnx : ∀ ty, (Instr.next (.pointer (some ⟨w.heap.size, 0, none⟩)) true ty).run Tryz.prog wr = _ := fun ty => Lib.run_next_any_at wr w.heap.size s pos ty hit hpos
      have hit2 := Lib.iterAt_heap wr w.heap.size s pos (pos + (Utf8.decode s pos).2) hit
      have hbw2 := Lib.below_iterAt hbw (k := w.heap.size) (Nat.le_refl _) s (pos + (Utf8.decode s pos).2)
      have hwd := decode_width_pos s pos hpos
      have HBW := Lib.hid hbw2
      have HIT := Lib.hid hit2
      obtain ⟨r, k, hrk⟩ : ∃ r k, Utf8.decode s pos = (r, k) := ⟨_, _, rfl⟩
      have hdl : decodeL (v.drop pos) = (r, k) := by rw [HVV.out, decodeL_drop]; exact hrk
      rw [hrk] at hnx
      simp only [hrk] at HBW HIT hwd
      have HDL := Lib.hid hdl
      have HNX := Lib.hid hit
      have hB3 : w.heap.size ≤ (wr.iterAt w.heap.size s (pos + k)).heap.size := by rw [Lib.iterAt_size]; omega
      clear hit2 hbw2 hrk hdl hit hbw
      by_cases hrf : r = 65533
      · subst hrf
        go_wp2_with (first | (go_at_call 4; refine (HRD.out _ HBW.out).mono ?_; rintro e w1 ⟨rfl, hb1⟩; have HB1 := Lib.hid hb1; clear hb1) | (go_at_call 5; refine (inRange_ok 65533 _).mono ?_; rintro e w1 ⟨⟨q, rfl, hq⟩, rfl⟩; clear hq; cases q))
        all_goals
          go_ret
          exact ⟨rfl, HBW.out.trans HB1.out⟩
      · have hrf' : ((r : Int) == 65533) = false := by simp; omega
        go_upto_region 8 with fail
        go_wp2_with (first | (go_at_call 4; refine (HRD.out _ HBW.out).mono ?_; rintro e w1 ⟨rfl, hb1⟩; have HB1 := Lib.hid hb1; clear hb1) | (go_at_call 5; refine (inRange_ok r _).mono ?_; rintro e w1 ⟨⟨q, rfl, hq⟩, rfl⟩; have HQ := Lib.hid hq; clear hq; cases q))
        · go_ret
          exact ⟨rfl, HBW.out.trans HB1.out⟩
        · go_roundw
          case rel => exact ⟨_, HIT.out, HBW.out, fun hg => Good.back (L := v) (p := pos) (l := v.drop pos) (by
              intro e
              have := congrArg List.length e
              rw [List.length_drop, HVV.out, ← Lib.size_eq] at this
              simp at this
              omega) (by rw [HDL.out]; exact HQ.out (by simp)) (by rw [HDL.out]; exact hrf) rfl HGD.out (by rw [HDL.out]; exact hg)⟩
          case measure =>
            simp only [World.iterPos, HIT.out, HNX.out]
            omega
    · have hnx : ∀ ty, (Instr.next (.pointer (some ⟨w.heap.size, 0, none⟩)) true ty).run Tryz.prog wr = _ := fun ty => Lib.run_next_end_at wr w.heap.size s pos ty hit hpos
      have hsv : s.size = v.length := by rw [HVV.out]; exact Lib.size_eq s
      have hdn : v.drop pos = [] := List.drop_eq_nil_of_le (by omega)
      have hgood : Good v := HGD.out (hdn ▸ Good.nil)
      clear hsv hdn
      have hvl : v.length ≤ 1000 := by
        have := Lib.size_eq s
        rw [← HVV.out] at this
        omega
      have es : (⟨v.toArray⟩ : ByteArray) = s := by rw [HVV.out]
      have hesc := escape_ok (B0 := w.heap.size) (v := v) (w := wr) (fun w2 h2 => HT.out w2 (hbw.trans h2)) hbw.size hgood HVN.out hvl
      rw [es] at hesc
      obtain ⟨E, hE⟩ : ∃ E : ByteArray, E = ⟨(esc v).toArray⟩ := ⟨_, rfl⟩
      rw [← hE] at hesc
      have hEs : E.size ≤ 5000 := by
        rw [hE]
        show (esc v).toArray.size ≤ 5000
        have := esc_len v
        simp
        omega
      have HE := Lib.hid hE
      have HESC := Lib.hid hesc
      have HGV := Lib.hid hgood
      have HBW := Lib.hid hbw
      have HES := Lib.hid es
      have n1 : ¬ 9223372036854775807 < 6 + E.size := by omega
      clear hE hesc hgood hbw es HGD hit
      go_wp2_with (first | (go_at_call 7; refine Hid.out ?_) | (go_at_call 6; refine HESC.out.mono ?_; rintro e w2 ⟨rfl, hb2⟩; have HB2 := Lib.hid (HBW.out.trans (hb2.mono HBW.out.size)); clear hb2))
      refine Lib.hid ?_
      obtain ⟨X, hX⟩ : ∃ X : ByteArray, X = (⟨#[60, 97, 32, 98, 61, 34]⟩ : ByteArray) ++ E ++ ⟨#[34, 32, 99, 61, 39]⟩ ++ E ++ ⟨#[39, 62]⟩ ++ E ++ ⟨#[60, 47, 97, 62]⟩ := ⟨_, rfl⟩
      rw [← hX]
      have hdoc : X.data.toList = docB [(98, 34, v), (99, 39, v)] v := by rw [hX, HE.out]; exact doc_law v
      have hXs : X.size ≤ 90000 := by
        rw [hX]
        simp only [ByteArray.size_append]
        have e1 : (⟨#[60, 97, 32, 98, 61, 34]⟩ : ByteArray).size = 6 := rfl
        have e2 : (⟨#[34, 32, 99, 61, 39]⟩ : ByteArray).size = 5 := rfl
        have e3 : (⟨#[39, 62]⟩ : ByteArray).size = 2 := rfl
        have e4 : (⟨#[60, 47, 97, 62]⟩ : ByteArray).size = 4 := rfl
        omega
      have hA : ∀ a ∈ [((98 : UInt8), (34 : UInt8), v), (99, 39, v)], AtR a := by
        intro a ha
        simp only [List.mem_cons, List.not_mem_nil, or_false] at ha
        rcases ha with rfl | rfl
        · exact ⟨.inr (.inl rfl), .inl rfl, HGV.out, HVN.out, hvl⟩
        · exact ⟨.inr (.inr rfl), .inr rfl, HGV.out, HVN.out, hvl⟩
      have hb3 : Below w.heap.size w (w2.alloc (.cells #[.string X] 9)) := HB2.out.trans ((Below.alloc1 _ _).mono HB2.out.size)
      refine (tokens_ok (pl := w2.heap.size) (B0 := w.heap.size) hXs (Lib.cell_of_heap (heap_alloc_new w2 (.cells #[.string X] 9)) 0) hdoc hA (by simp) hvl HGV.out HVN.out HB2.out.size hp (fun w4 h4 => HT.out w4 (hb3.trans h4)) (HV.out.keep (hb3.block 0 hp))).mono ?_
      rintro e w3 ⟨tv, av, o, b, rfl, ho, ha, hb4⟩
      obtain ⟨g, cap, rfl, hbg, hgl⟩ := ho.form (by omega)
      obtain ⟨g2, cap2, rfl, hbg2, hgl2⟩ := ha.form (by simp)
      have c3 : w3.cell? ⟨g, 3, none⟩ = some (.slice (some ⟨g2, 0, none⟩) 2 cap2) := own_c ho rfl
      have c8 : w3.cell? ⟨g, 8, none⟩ = some (.int .i64 3) := own_c ho rfl
      have c12 : w3.cell? ⟨g, 12, none⟩ = some (.string s) := by rw [← HES.out]; exact own_c ho rfl
      have d2 : w3.cell? ⟨g2, 2, none⟩ = some (.string s) := by rw [← HES.out]; exact own_c ha rfl
      have d5 : w3.cell? ⟨g2, 5, none⟩ = some (.string s) := by rw [← HES.out]; exact own_c ha rfl
      have HB4 := Lib.hid (hb3.trans hb4)
      clear ho ha hb4 hb3 hdoc hXs hA hX n1
      have hb5 : Below w.heap.size w (w3.alloc (.cells eofF 27)) := HB4.out.trans ((Below.alloc1 _ _).mono HB4.out.size)
      have HRD5 := Lib.hid (HRD.out _ hb5)
      have HB5 := Lib.hid hb5
      clear hb5
      go_wp2_with (go_at_call 4; refine HRD5.out.mono ?_; rintro e w5 ⟨rfl, hb6⟩; have HB6 := Lib.hid (HB5.out.trans hb6); clear hb6)
      go_ret
      exact ⟨rfl, HB6.out⟩

end Go.Proofs.YthhmnnojgjpibaaGreatDoor
