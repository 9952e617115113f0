/- rawToken: a start tag. rawToken: a text, an end tag, the end. translate: names without a prefix, and no name space laid. push, pushElement: onto an empty stack. popElement: the one element on the stack. -/
import Derived.Test.YthhmnnojgjpibaaGreatDoorA16
import Derived.Test.YthhmnnojgjpibaaGreatDoorA01
import Derived.Test.YthhmnnojgjpibaaGreatDoorA15
import Derived.Maps.Own
import Derived.Maps.OwnSet

set_option linter.unusedVariables false
set_option linter.unusedSimpArgs false

namespace Go.Proofs.YthhmnnojgjpibaaGreatDoor
open Go Go.RowKit Go.Lib

attribute [local go_sem ↓] Go.wp_at_zero Go.wp_at_succ
/-- An attribute that is read. -/
def AtR (a : At) : Prop := Abc a.1 ∧ (a.2.1 = 34 ∨ a.2.1 = 39) ∧ Good a.2.2 ∧ a.2.2 ≠ [] ∧ a.2.2.length ≤ 1000
/-- Its cells. -/
def atC (a : At) : List Value := [.string ⟨#[]⟩, .string ⟨#[a.1]⟩, .string ⟨a.2.2.toArray⟩]
theorem raw_loop {I : Ids} {F0 Fp : Nat → Prop} {B : Nat → Option Value} {bs r : List UInt8} {ats : List At} {f : Bool} {w0 w : World} {nb : Nat} {v0 : Value} {csn : Array Value} {B0 : Nat} {Q0 : Exit → Act → World → Prop} (hI : IdOk I) (hB : BOk I B) (hA : ∀ a ∈ ats, AtR a) (hl : ats.length ≤ 100)
    (hd : DS I Fp B bs (ats.flatMap atB ++ 62 :: r) f w) (hs : Stp F0 Fp w0 w) (hF : ∀ k, F0 k → B0 ≤ k) (hz : B0 ≤ w0.heap.size) (hT : U8 B0 w0) (hr : Row w Fp w0.heap.size 98 3 v0 0 []) (hk : Kp w Fp nb (.cells csn 76 (0, 0)))
    (a : Act) (ha : TagA I nb v0 a)
    (hX : ∀ a' w' Fp' v1 bs', TagA I nb v1 a' → DS I Fp' B bs' r true w' → Stp F0 Fp' w0 w' → Row w' Fp' w0.heap.size 98 3 v1 ats.length (ats.flatMap atC) → Kp w' Fp' nb (.cells csn 76 (0, 0)) → Q0 (.exit 17) a' w') :
    Code.wp Tryz.prog (Code.loop rawBody) Q0 a w := by
  refine wp_loop_ghost (fun gk a wx => ∃ (pre post : List At) (Fq : Nat → Prop) (f : Bool) (v : Value) (bs : List UInt8), ats = pre ++ post ∧ gk = post.length ∧ TagA I nb v a ∧ DS I Fq B bs (post.flatMap atB ++ 62 :: r) f wx ∧ Stp F0 Fq w0 wx ∧ Row wx Fq w0.heap.size 98 3 v pre.length (pre.flatMap atC) ∧ Kp wx Fq nb (.cells csn 76 (0, 0))) ats.length
    ⟨[], ats, Fp, f, v0, bs, rfl, rfl, ha, hd, hs, hr, hk⟩ ?_
  rintro n a wr ⟨pre, post, Fq, f, v, bs, he, rfl, hta, hd, hs, hr, hk⟩
  obtain ⟨u, rfl⟩ := frameTag hta
  cases post with
  | nil =>
    obtain rfl : ats = pre := by simpa using he
    exact raw_end hI hB hd fun a' w' h1 h2 h3 => hX a' w' Fq v bs h1 h2 (hs.trans h3) (hr.step h3) (hk.step h3)
  | cons b post =>
    obtain ⟨x, t0, s⟩ := b
    obtain ⟨h1, h2, h3, h4, h5⟩ := hA (x, t0, s) (by rw [he]; simp)
    have hd' : DS I Fq B bs (32 :: x :: 61 :: t0 :: (esc s ++ t0 :: (post.flatMap atB ++ 62 :: r))) f wr := by
      have e : (((x, t0, s) :: post).flatMap atB ++ 62 :: r) = 32 :: x :: 61 :: t0 :: (esc s ++ t0 :: (post.flatMap atB ++ 62 :: r)) := by simp [List.flatMap_cons, atB]
      rw [e] at hd
      exact hd
    have hn : pre.length ≤ 100 := by rw [he] at hl; simp at hl; omega
    refine raw_attr hI hB h1 h2 hd' hs h5 h3 h4 hF hz hT hr hn hk fun a' w' Fp' v1 k1 k2 k3 k4 k5 => ⟨post.length, by simp, pre ++ [(x, t0, s)], post, Fp', true, v1, s, by simp [he], rfl, k1, k2, k3, ?_, k5⟩
    have e2 : (pre ++ [(x, t0, s)]).flatMap atC = pre.flatMap atC ++ [.string ⟨#[]⟩, .string ⟨#[x]⟩, .string ⟨s.toArray⟩] := by simp [List.flatMap_append, List.flatMap_cons, atC]
    rw [e2, List.length_append]
    exact k4
theorem Row.form {w : World} {Fp : Nat → Prop} {b e k n : Nat} {v : Value} {xs : List Value} (h : Row w Fp b e k v n xs) : ∃ A c, v = .slice A n c := by
  rcases h.1.2 with ⟨rfl, rfl⟩ | ⟨g, cap, cur, rfl, _⟩
  · exact ⟨_, _, rfl⟩
  · exact ⟨_, _, rfl⟩
theorem tail_fin (ats : List At) (r : List UInt8) : ∃ t r', ats.flatMap atB ++ 62 :: r = t :: r' ∧ Fin_ t := by
  cases ats with
  | nil => exact ⟨62, r, rfl, .inr (.inr (.inl rfl))⟩
  | cons a ats => exact ⟨32, _, by simp [List.flatMap_cons, atB]; rfl, .inl rfl⟩
set_option maxHeartbeats 8000000 in
set_option maxRecDepth 1000000 in
theorem raw_start {I : Ids} {Fp : Nat → Prop} {B : Nat → Option Value} {bs r : List UInt8} {ats : List At} {fr : Bool} {w : World} {B0 : Nat} (hI : IdOk I) (hB : BOk I B) (hA : ∀ a ∈ ats, AtR a) (hl : ats.length ≤ 100)
    (h : DS I Fp B bs (60 :: 97 :: (ats.flatMap atB ++ 62 :: r)) fr w) (hF : ∀ k, Fp k → B0 ≤ k) (hz : B0 ≤ w.heap.size) (hT : U8 B0 w) :
    Calls Tryz.prog 25 #[.pointer (some ⟨I.dd, 0, none⟩)] w fun e w' => ∃ v, e = .returned (.tuple #[.iface 96 (.agg #[.string ⟨#[]⟩, .string ⟨#[97]⟩, v]), .nilIface]) ∧ ∃ Fp' bs', DS I Fp' B bs' r true w' ∧ Stp Fp Fp' w w' ∧ Row w' Fp' w.heap.size 98 3 v ats.length (ats.flatMap atC) := by
  obtain ⟨t, r', htr, hfin⟩ := tail_fin ats r
  have hcells : w.cell? ⟨I.dd, 6, none⟩ = some .nilIface ∧ w.cell? ⟨I.dd, 20, none⟩ = some .nilIface ∧ w.cell? ⟨I.dd, 14, none⟩ = some (.bool false) := by
    obtain ⟨nb, line, lst, off, h⟩ := h
    exact ⟨(h.cell 6 (by omega)).trans hB.t, h.cell 20 (by omega), (h.cell 14 (by omega)).trans hB.nc⟩
  obtain ⟨c6, c20, c14⟩ := hcells
  have HD := Lib.hid h
  have HB := Lib.hid hB
  have HA := Lib.hid hA
  have HF := Lib.hid hF
  have HT := Lib.hid hT
  have HTR := Lib.hid htr
  clear h hB hA hF hT htr
  go_enter Tryz.func25, Tryz.ntmps25
  go_wp2_with (first | (go_at_call 40; refine (nsname_ok hI HB.out ((HTR.out ▸ HC3.out).alloc _) (.inl rfl) hfin).mono ?_; rintro e w4 ⟨rfl, Fp4, h4, e4⟩; have HC4 := Lib.hid h4; have HE4 := Lib.hid e4; clear h4 e4; refine Hid.out ?_) | (go_at_call 37; refine (ungetc_n 97 97 (by decide) HC2.out).mono ?_; rintro e w3 ⟨rfl, h3, e3⟩; have HC3 := Lib.hid h3; have HT3 := Lib.hid (HT2.out.trans (Stp.of e3)); clear h3 e3) | (go_at_call 39; refine (mustgetc_n hI HB.out HC1.out 97 (by decide)).mono ?_; rintro e w2 ⟨rfl, h2, e2⟩; have HC2 := Lib.hid h2; have HT2 := Lib.hid (HT1.out.trans (Stp.of e2)); clear h2 e2) | (go_at_call 36; refine (getc_n hI HB.out HD.out 60 (by decide)).mono ?_; rintro e w1 ⟨rfl, h1, e1⟩; have HC1 := Lib.hid h1; have HT1 := Lib.hid (Stp.of e1); clear h1 e1))
  refine Lib.hid ?_
  have hk3 := Kp.new_ w3 HC3.out.lt (.cells #[.string ⟨#[]⟩, .string ⟨#[]⟩] 76)
  have e4 := HE4.out
  have hk4 := hk3.step e4
  have hN4 := hk4.1
  have c0 : w4.cell? ⟨w3.heap.size, 0, none⟩ = some (.string ⟨#[]⟩) := hk4.cell 0
  have c1 : w4.cell? ⟨w3.heap.size, 1, none⟩ = some (.string ⟨#[]⟩) := hk4.cell 1
  have f0 := hk4.frozen 0
  have f1 := hk4.frozen 1
  have HT4 := Lib.hid (HT3.out.trans ((e4.from_alloc.new_ (Nat.le_refl _) (.string ⟨#[]⟩) (i := 0)).new_ (Nat.le_refl _) (.string ⟨#[97]⟩) (i := 1)))
  have hd4 := (HC4.out.far hN4 (.string ⟨#[]⟩) (i := 0)).far hN4 (.string ⟨#[97]⟩) (i := 1)
  rw [← HTR.out] at hd4
  have HD4 := Lib.hid hd4
  have HK4 := Lib.hid ((hk4.set_ 0 (.string ⟨#[]⟩)).set_ 1 (.string ⟨#[97]⟩))
  clear hk3 e4 hk4 HC4 HE4 hd4
  go_wp2
  have hlw : w.heap.size ≤ w4.heap.size := by have := HT4.out.1.size; simpa using this
  have hrow : Row (((w4.setCell ⟨w3.heap.size, 0, none⟩ (.string ⟨#[]⟩)).setCell ⟨w3.heap.size, 1, none⟩ (.string ⟨#[97]⟩)).alloc (.cells #[] 98)) Fp4 w.heap.size 98 3 (.slice (some ⟨w4.heap.size, 0, none⟩) 0 0) 0 [] := by
    have hnw := heap_alloc_new ((w4.setCell ⟨w3.heap.size, 0, none⟩ (.string ⟨#[]⟩)).setCell ⟨w3.heap.size, 1, none⟩ (.string ⟨#[97]⟩)) (.cells #[] 98)
    rw [World.size_setCell, World.size_setCell] at hnw
    refine ⟨⟨rfl, .inr ⟨w4.heap.size, 0, #[], rfl, hlw, hnw, Nat.le_refl _, Nat.zero_le _, rfl, rfl⟩⟩, fun g he hp => ?_⟩
    obtain rfl : w4.heap.size = g := by simpa [Value.ownBlock] using he
    have := HD4.out.lt _ hp
    simp at this
  have HROW := Lib.hid hrow
  clear hrow c0 c1 f0 f1 c6 c20 c14 hlw HC1 HC2 HC3 HT1 HT2 HT3
  refine raw_loop (r := r) hI HB.out HA.out hl (HD4.out.alloc _) (HT4.out.alloc _) HF.out hz HT.out HROW.out (HK4.out.alloc _) _ ⟨rfl, rfl, rfl, rfl, rfl, rfl⟩ ?_
  intro a' w5 Fp5 v1 bs5 hta hd5 hs5 hr5 hk5
  obtain ⟨u, rfl⟩ := frameTag hta
  obtain ⟨A1, k1, rfl⟩ := hr5.form
  have HD5 := Lib.hid hd5
  have HS5 := Lib.hid hs5
  have HR5 := Lib.hid hr5
  have c0 : w5.cell? ⟨w3.heap.size, 0, none⟩ = some (.string ⟨#[]⟩) := hk5.cell 0
  have c1 : w5.cell? ⟨w3.heap.size, 1, none⟩ = some (.string ⟨#[97]⟩) := hk5.cell 1
  clear hta hd5 hs5 hr5 hk5 HROW HD4 HT4 HK4
  rename_i K hK
  refine hK _ _ ?_
  go_wp2
  (try rw [Exit.noGoto_ret])
  go_ret2
  exact ⟨_, rfl, Fp5, bs5, HD5.out, HS5.out, HR5.out⟩

end Go.Proofs.YthhmnnojgjpibaaGreatDoor
namespace Go.Proofs.YthhmnnojgjpibaaGreatDoor
open Go Go.RowKit Go.Lib

attribute [local go_sem ↓] Go.wp_at_zero Go.wp_at_succ
theorem esc_head {v : List UInt8} (h : v ≠ []) : ∃ b t, esc v = b :: t ∧ b ≠ 60 := by
  cases v with
  | nil => exact absurd rfl h
  | cons c v =>
    rw [esc_cons]
    rcases escB_cases c with ⟨h1, h2⟩ | ⟨_, h2⟩ | ⟨_, h2⟩ | ⟨_, h2⟩
    · refine ⟨c, esc v, by rw [h2]; rfl, ?_⟩
      rintro rfl
      exact absurd h1 (by decide)
    all_goals exact ⟨38, _, by rw [h2]; rfl, by decide⟩
section
variable {I : Ids} {Fp : Nat → Prop} {B : Nat → Option Value} {bs r v : List UInt8} {fr : Bool} {w : World} {B0 : Nat}
theorem DS.heads (hB : BOk I B) (h : DS I Fp B bs r fr w) : w.cell? ⟨I.dd, 6, none⟩ = some .nilIface ∧ w.cell? ⟨I.dd, 20, none⟩ = some .nilIface ∧ w.cell? ⟨I.dd, 14, none⟩ = some (.bool false) := by
  obtain ⟨nb, line, lst, off, h⟩ := h
  exact ⟨(h.cell 6 (by omega)).trans hB.t, h.cell 20 (by omega), (h.cell 14 (by omega)).trans hB.nc⟩
set_option maxHeartbeats 8000000 in
set_option maxRecDepth 1000000 in
theorem raw_text (hI : IdOk I) (hB : BOk I B) (h : DS I Fp B bs (esc v ++ 60 :: r) fr w) (hv : v.length ≤ 1000) (hg : Good v) (hne : v ≠ []) (hF : ∀ k, Fp k → B0 ≤ k) (hz : B0 ≤ w.heap.size) (hT : U8 B0 w) :
    Calls Tryz.prog 25 #[.pointer (some ⟨I.dd, 0, none⟩)] w fun e w' => ∃ g c, e = .returned (.tuple #[.iface 101 (.slice (some ⟨g, 0, none⟩) v.length c), .nilIface]) ∧ Rds v g c w' ∧ ∃ Fp', DS I Fp' B v (60 :: r) false w' ∧ Stp Fp Fp' w w' := by
  obtain ⟨b, t, het, hb⟩ := esc_head hne
  have hb60 : ((b.toNat : Int) == 60) = false := by
    have : b.toNat ≠ 60 := fun e => hb (UInt8.toNat_inj.1 e)
    simp; omega
  obtain ⟨c6, c20, c14⟩ := h.heads hB
  have e1 : esc v ++ 60 :: r = b :: (t ++ 60 :: r) := by rw [het]; rfl
  have HE := Lib.hid e1
  rw [e1] at h
  have HD := Lib.hid h
  have HB := Lib.hid hB
  have HGD := Lib.hid hg
  have HNV := Lib.hid hne
  have HF := Lib.hid hF
  have HT := Lib.hid hT
  clear h hB hF hT hg hne het hb e1
  go_enter Tryz.func25, Tryz.ntmps25
  go_wp2_with (first | (go_at_call 38; refine (textT (r := r) hI HB.out (by rw [HE.out]; exact HC2.out) hv HGD.out HNV.out (HT2.out.lowF HF.out hz) (Nat.le_trans hz HT2.out.1.size) (HT.out.low HT2.out HF.out hz)).mono ?_; rintro e w3 ⟨g, c, rfl, hR, Fp3, h3, e3⟩; have hnil : ∀ W, (binOp .eql 39 (.slice (some ⟨g, 0, none⟩) v.length c) (.slice none 0 0)).run Tryz.prog W = .ok (.bool false) W := fun W => Lib.run_eql_slice_some_nil W _ _ _ Tryz.underlying39; have HR := Lib.hid hR; have HC3 := Lib.hid h3; have HT3 := Lib.hid (HT2.out.trans e3); clear hR h3 e3) | (go_at_call 37; refine (ungetc_ds b HC1.out).mono ?_; rintro e w2 ⟨rfl, h2, e2⟩; have HC2 := Lib.hid h2; have HT2 := Lib.hid (HT1.out.trans (Stp.of e2)); clear h2 e2) | (go_at_call 36; refine (getc_ds hI HB.out HD.out).mono ?_; rintro e w1 ⟨rfl, h1, e1⟩; have HC1 := Lib.hid h1; have HT1 := Lib.hid (Stp.of e1); clear h1 e1))
  go_ret2
  exact ⟨g, c, rfl, HR.out, Fp3, HC3.out, HT3.out⟩
set_option maxHeartbeats 8000000 in
set_option maxRecDepth 1000000 in
theorem raw_close (hI : IdOk I) (hB : BOk I B) (h : DS I Fp B bs (60 :: 47 :: 97 :: 62 :: r) fr w) :
    Calls Tryz.prog 25 #[.pointer (some ⟨I.dd, 0, none⟩)] w fun e w' => e = .returned (.tuple #[.iface 100 (.agg #[.string ⟨#[]⟩, .string ⟨#[97]⟩]), .nilIface]) ∧ ∃ Fp' bs', DS I Fp' B bs' r true w' ∧ Stp Fp Fp' w w' := by
  obtain ⟨c6, c20, c14⟩ := h.heads hB
  have HD := Lib.hid h
  have HB := Lib.hid hB
  clear h hB
  go_enter Tryz.func25, Tryz.ntmps25
  go_wp2_with (first | (go_at_call 40; refine (nsname_ok hI HB.out (HC2.out.alloc _) (.inl rfl) (.inr (.inr (.inl rfl)))).mono ?_; rintro e w4 ⟨rfl, Fp4, h4, e4⟩; have HC4 := Lib.hid h4; have HE4 := Lib.hid e4; clear h4 e4; refine Hid.out ?_) | (go_at_call 39; refine (mustgetc_n hI HB.out HC1.out 47 (by decide)).mono ?_; rintro e w2 ⟨rfl, h2, e2⟩; have HC2 := Lib.hid h2; have HT2 := Lib.hid (HT1.out.trans (Stp.of e2)); clear h2 e2) | (go_at_call 36; refine (getc_n hI HB.out HD.out 60 (by decide)).mono ?_; rintro e w1 ⟨rfl, h1, e1⟩; have HC1 := Lib.hid h1; have HT1 := Lib.hid (Stp.of e1); clear h1 e1))
  refine Lib.hid ?_
  have hk3 := Kp.new_ w2 HC2.out.lt (.cells #[.string ⟨#[]⟩, .string ⟨#[]⟩] 76)
  have e4 := HE4.out
  have hk4 := hk3.step e4
  have hN4 := hk4.1
  have c0 : w4.cell? ⟨w2.heap.size, 0, none⟩ = some (.string ⟨#[]⟩) := hk4.cell 0
  have c1 : w4.cell? ⟨w2.heap.size, 1, none⟩ = some (.string ⟨#[]⟩) := hk4.cell 1
  have f0 := hk4.frozen 0
  have f1 := hk4.frozen 1
  have HT4 := Lib.hid (HT2.out.trans ((e4.from_alloc.new_ (Nat.le_refl _) (.string ⟨#[]⟩) (i := 0)).new_ (Nat.le_refl _) (.string ⟨#[97]⟩) (i := 1)))
  have HD4 := Lib.hid ((HC4.out.far hN4 (.string ⟨#[]⟩) (i := 0)).far hN4 (.string ⟨#[97]⟩) (i := 1))
  have HK4 := Lib.hid ((hk4.set_ 0 (.string ⟨#[]⟩)).set_ 1 (.string ⟨#[97]⟩))
  clear hk3 e4 hk4 HC4 HE4
  go_wp2_with (first | (go_at_call 39; refine (mustgetc_n hI HB.out HC5.out 62 (by decide)).mono ?_; rintro e w6 ⟨rfl, h6, e6⟩; have HC6 := Lib.hid h6; have HT6 := Lib.hid (HT5.out.trans (Stp.of e6)); have hk6 := HK5.out.step (Stp.of e6); have k0 : w6.cell? ⟨w2.heap.size, 0, none⟩ = some (.string ⟨#[]⟩) := hk6.cell 0; have k1 : w6.cell? ⟨w2.heap.size, 1, none⟩ = some (.string ⟨#[97]⟩) := hk6.cell 1; clear hk6 h6 e6) | (go_at_call 41; refine (space0 hI HB.out HD4.out (by unfold Ink; decide)).mono ?_; rintro e w5 ⟨rfl, h5, e5⟩; have HC5 := Lib.hid h5; have HT5 := Lib.hid (HT4.out.trans (Stp.of e5)); have HK5 := Lib.hid (HK4.out.step (Stp.of e5)); clear h5 e5))
  go_ret2
  exact ⟨rfl, Fp4, _, HC6.out, HT6.out⟩
set_option maxHeartbeats 8000000 in
set_option maxRecDepth 1000000 in
theorem raw_eof {nb line lst off : Int} {ev : Value} (hI : IdOk I) (hB : BOk I B) (hev : EofV ev w) (h : DSf I Fp ⟨B, nb, .nilIface, line, lst, off⟩ bs [] true w) :
    Calls Tryz.prog 25 #[.pointer (some ⟨I.dd, 0, none⟩)] w fun e w' => e = .returned (.tuple #[.nilIface, ev]) ∧ (∃ line lst off : Int, DSf I Fp ⟨B, -1, ev, line, lst, off⟩ bs [] true w') ∧ Ext Fp w w' := by
  obtain ⟨c6, c20, c14⟩ := DS.heads hB ⟨_, _, _, _, h⟩
  have HD := Lib.hid h
  have HB := Lib.hid hB
  have HV := Lib.hid hev
  clear h hB hev
  go_enter Tryz.func25, Tryz.ntmps25
  go_wp2_with (go_at_call 36; refine (getc_eof hI HB.out HV.out HD.out).mono ?_; rintro e w1 ⟨rfl, ⟨line1, lst1, off1, h1⟩, e1⟩; have k20 : w1.cell? ⟨I.dd, 20, none⟩ = some ev := h1.cell 20 (by omega); have HC1 := Lib.hid h1; have HT1 := Lib.hid e1; clear h1 e1)
  go_quiet (fail)
  go_wp2
  go_ret2
  exact ⟨rfl, ⟨_, _, _, HC1.out.drewN _⟩, HT1.out.drewN _⟩
end

end Go.Proofs.YthhmnnojgjpibaaGreatDoor
namespace Go.Proofs.YthhmnnojgjpibaaGreatDoor
open Go Go.RowKit Go.Lib Go.Maps

attribute [local go_sem ↓] Go.wp_at_zero Go.wp_at_succ
theorem zero9 (w : World) : (zeroValue 9).run Tryz.prog w = .ok (.string ⟨#[]⟩) w := by kernel_rfl
theorem look_empty {w : World} {m clock : Nat} (hb : w.heap[m]? = some (.map #[] clock)) : (Instr.lookup 68 (.map (some m)) (.string ⟨#[]⟩) true).run Tryz.prog w = .ok (.tuple #[.string ⟨#[]⟩, .bool false]) w := by
  have K : Keyed Tryz.prog 9 := string_keyed Tryz.underlying9
  have hkey := WideMaps.keyOf_string_mk (P := Tryz.prog) (s := ⟨#[]⟩) Tryz.underlying9 (by decide)
  rcases K.find w hkey [] (by simp) with ⟨f1, _⟩ | ⟨j, e0, _, f2, _⟩
  · simp [Instr.lookup, run_underlying Tryz.underlying68, MapKept.run_getObj_map hb, K.check w _ hkey, f1, zero9, Result.andThen]
  · simp at f2
set_option maxHeartbeats 2000000 in
theorem tr_attr (d k o : Nat) (w : World) (c0 : w.cell? ⟨k, o, none⟩ = some (.string ⟨#[]⟩)) :
    Calls Tryz.prog 30 #[.pointer (some ⟨d, 0, none⟩), .pointer (some ⟨k, o, none⟩), .bool false] w fun e w' => e = .returned (.tuple #[]) ∧ w = w' := by
  go_enter Tryz.func30, Tryz.ntmps30
  go_wp2
  refine bodyPost_ret (v := .tuple #[]) (by simp [results, Tryz.results30, go_sem]) rfl ⟨rfl, rfl⟩
set_option maxHeartbeats 4000000 in
set_option maxRecDepth 100000 in
theorem tr_elem (d k m clock : Nat) (w : World) (c0 : w.cell? ⟨k, 0, none⟩ = some (.string ⟨#[]⟩)) (c1 : w.cell? ⟨k, 1, none⟩ = some (.string ⟨#[97]⟩)) (f0 : w.frozen? ⟨k, 0, none⟩ = false)
    (d19 : w.cell? ⟨d, 19, none⟩ = some (.map (some m))) (d4 : w.cell? ⟨d, 4, none⟩ = some (.string ⟨#[]⟩)) (hb : w.heap[m]? = some (.map #[] clock)) :
    Calls Tryz.prog 30 #[.pointer (some ⟨d, 0, none⟩), .pointer (some ⟨k, 0, none⟩), .bool true] w fun e w' => e = .returned (.tuple #[]) ∧ ∃ n, w' = (w.setCell ⟨k, 0, none⟩ (.string ⟨#[]⟩)).drewN n := by
  have hlk : ∀ n, (Instr.lookup 68 (.map (some m)) (.string ⟨#[]⟩) true).run Tryz.prog (w.drewN n) = .ok (.tuple #[.string ⟨#[]⟩, .bool false]) (w.drewN n) := fun n => look_empty hb
  have hlk0 : (Instr.lookup 68 (.map (some m)) (.string ⟨#[]⟩) true).run Tryz.prog w = .ok (.tuple #[.string ⟨#[]⟩, .bool false]) w := look_empty hb
  go_enter Tryz.func30, Tryz.ntmps30
  go_wp2
  go_quiet (fail)
  go_wp2
  go_end0
  exact ⟨rfl, _, rfl⟩

end Go.Proofs.YthhmnnojgjpibaaGreatDoor
namespace Go.Proofs.YthhmnnojgjpibaaGreatDoor
open Go Go.RowKit Go.Lib

attribute [local go_sem ↓] Go.wp_at_zero Go.wp_at_succ
/-- One cell of the decoder's own is turned. -/
def upd (B : Nat → Option Value) (i : Nat) (x : Value) : Nat → Option Value := fun j => if j = i then some x else B j
theorem upd_same (B : Nat → Option Value) (i : Nat) (x : Value) : upd B i x i = some x := by simp [upd]
theorem upd_other (B : Nat → Option Value) {i j : Nat} (x : Value) (h : j ≠ i) : upd B i x j = B j := by simp [upd, h]
section
variable {I : Ids} {Fp : Nat → Prop} {B : Nat → Option Value} {bs rest : List UInt8} {fr : Bool} {w : World}
theorem BOk.upd (h : BOk I B) {i : Nat} (hi : i = 11 ∨ i = 12 ∨ i = 13) (x : Value) : BOk I (upd B i x) := by
  refine ⟨?_, ?_, ?_, ?_, ?_, ?_, ?_, ?_⟩
  all_goals rw [upd_other B x (by omega)]
  · exact h.strict
  · exact h.ent
  · exact h.dsp
  · exact h.r
  · exact h.t
  · exact h.saved
  · exact h.nc
  · exact h.nt
theorem DS.setB (h : DS I Fp B bs rest fr w) (i : Nat) (hi : i = 11 ∨ i = 12 ∨ i = 13) (x : Value) {old : Value} (ho : B i = some old) : DS I Fp (upd B i x) bs rest fr (w.setCell ⟨I.dd, i, none⟩ x) := by
  obtain ⟨nb, line, lst, off, h⟩ := h
  exact ⟨nb, line, lst, off, h.set_base i (by omega) (by omega) x ⟨old, ho⟩⟩
theorem DS.cellB (h : DS I Fp B bs rest fr w) (i : Nat) (hi : i < 7 ∨ 10 ≤ i) (hn : i ≠ 18 ∧ i ≠ 20 ∧ i ≠ 21 ∧ i ≠ 22 ∧ i ≠ 23) : w.cell? ⟨I.dd, i, none⟩ = B i := by
  obtain ⟨nb, line, lst, off, h⟩ := h
  refine (h.cell i (by omega)).trans ?_
  simp only [RF]; rw [if_neg hn.1, if_neg hn.2.1, if_neg hn.2.2.1, if_neg hn.2.2.2.1, if_neg hn.2.2.2.2]
theorem DS.frozenD (h : DS I Fp B bs rest fr w) (i : Nat) : w.frozen? ⟨I.dd, i, none⟩ = false := by
  obtain ⟨nb, line, lst, off, h⟩ := h
  exact h.frozen i
theorem Stp.setD (h : DS I Fp B bs rest fr w) (i : Nat) (x : Value) : Stp Fp Fp w (w.setCell ⟨I.dd, i, none⟩ x) := Stp.of (Ext.at_ _ h.fpd _)
end
set_option maxHeartbeats 4000000 in
set_option maxRecDepth 100000 in
theorem push_ok {I : Ids} {Fp : Nat → Prop} {B : Nat → Option Value} {bs r : List UInt8} {fr : Bool} {w : World} (h : DS I Fp B bs r fr w) (h11 : B 11 = some (.pointer none)) (h12 : B 12 = some (.int .i64 0)) (h13 : B 13 = some (.pointer none)) :
    Calls Tryz.prog 52 #[.pointer (some ⟨I.dd, 0, none⟩), .int .i64 0] w fun e w' => e = .returned (.pointer (some ⟨w.heap.size, 0, none⟩)) ∧ DS I Fp (upd (upd B 12 (.int .i64 1)) 11 (.pointer (some ⟨w.heap.size, 0, none⟩))) bs r fr w' ∧ Stp Fp Fp w w' ∧ Kp w' Fp w.heap.size (.cells #[.pointer none, .int .i64 0, .string ⟨#[]⟩, .string ⟨#[]⟩, .bool false] 114) := by
  have c11 := (h.cellB 11 (by omega) (by omega)).trans h11
  have c12 := (h.cellB 12 (by omega) (by omega)).trans h12
  have c13 := (h.cellB 13 (by omega) (by omega)).trans h13
  have f11 := h.frozenD 11
  have f12 := h.frozenD 12
  have hlt := h.lt _ h.fpd
  have H := Lib.hid h
  clear h
  go_enter Tryz.func52, Tryz.ntmps52
  go_wp2
  go_ret
  have hD := ((H.out.setB 12 (by omega) (.int .i64 1) h12).setB 11 (by omega) (.pointer (some ⟨w.heap.size, 0, none⟩)) (by rw [upd_other B _ (by decide)]; exact h11))
  have hk := Kp.new_ _ hD.lt (.cells #[.pointer none, .int .i64 0, .string ⟨#[]⟩, .string ⟨#[]⟩, .bool false] 114)
  rw [World.size_setCell, World.size_setCell] at hk
  exact ⟨rfl, hD.alloc _, (Stp.trans (Stp.setD H.out 12 _) (Stp.setD (H.out.setB 12 (by omega) _ h12) 11 _)).alloc _, hk⟩
set_option maxHeartbeats 4000000 in
set_option maxRecDepth 100000 in
theorem pushElement_ok {I : Ids} {Fp : Nat → Prop} {B : Nat → Option Value} {bs r : List UInt8} {fr : Bool} {w : World} (h : DS I Fp B bs r fr w) (h11 : B 11 = some (.pointer none)) (h12 : B 12 = some (.int .i64 0)) (h13 : B 13 = some (.pointer none)) :
    Calls Tryz.prog 29 #[.pointer (some ⟨I.dd, 0, none⟩), .agg #[.string ⟨#[]⟩, .string ⟨#[97]⟩]] w fun e w' => e = .returned (.tuple #[]) ∧ ∃ s, w.heap.size ≤ s ∧ DS I Fp (upd (upd B 12 (.int .i64 1)) 11 (.pointer (some ⟨s, 0, none⟩))) bs r fr w' ∧ Stp Fp Fp w w' ∧ Kp w' Fp s (.cells #[.pointer none, .int .i64 0, .string ⟨#[]⟩, .string ⟨#[97]⟩, .bool false] 114) := by
  have hlt := h.lt _ h.fpd
  have H := Lib.hid h
  clear h
  go_enter Tryz.func29, Tryz.ntmps29
  go_wp2_with (go_at_call 52; refine (push_ok (H.out.alloc _) h11 h12 h13).mono ?_; rintro e w1 ⟨rfl, hd1, hs1, hk1⟩; refine Hid.out ?_)
  refine Lib.hid ?_
  have es : (w.alloc (.cells #[.string ⟨#[]⟩, .string ⟨#[97]⟩] 76)).heap.size = w.heap.size + 1 := by simp
  rw [es] at hk1 hd1
  have hn := (Kp.new_ w H.out.lt (.cells #[.string ⟨#[]⟩, .string ⟨#[97]⟩] 76)).step hs1
  have n0 : w1.cell? ⟨w.heap.size, 0, none⟩ = some (.string ⟨#[]⟩) := hn.cell 0
  have n1 : w1.cell? ⟨w.heap.size, 1, none⟩ = some (.string ⟨#[97]⟩) := hn.cell 1
  have s2 : w1.cell? ⟨w.heap.size + 1, 2, none⟩ = some (.string ⟨#[]⟩) := hk1.cell 2
  have s3 : w1.cell? ⟨w.heap.size + 1, 3, none⟩ = some (.string ⟨#[]⟩) := hk1.cell 3
  have f2 := hk1.frozen 2
  have f3 := hk1.frozen 3
  have HD1 := Lib.hid hd1
  have HS1 := Lib.hid hs1
  have HK1 := Lib.hid hk1
  clear hd1 hs1 hk1 hn
  go_wp2
  go_end0
  have hN := HK1.out.1
  refine ⟨rfl, w.heap.size + 1, by omega, (HD1.out.far hN _).far hN _, ?_, (HK1.out.set_ 2 (.string ⟨#[]⟩)).set_ 3 (.string ⟨#[97]⟩)⟩
  exact (HS1.out.from_alloc.new_ (by omega) _).new_ (by omega) _
theorem Stp.new_or {Fp Fp' : Nat → Prop} {w w' : World} (h : Stp Fp Fp' w w') {b i : Nat} (hb : Fp b ∨ w.heap.size ≤ b) (v : Value) : Stp Fp Fp' w (w'.setCell ⟨b, i, none⟩ v) :=
  hb.elim (fun e => ⟨h.1.trans (Ext.at_ (S := Fp) _ e _), h.2⟩) fun e => h.new_ e v
set_option maxHeartbeats 4000000 in
set_option maxRecDepth 100000 in
theorem pop_ok {I : Ids} {F0 Fp : Nat → Prop} {w0 : World} {B : Nat → Option Value} {bs r : List UInt8} {fr : Bool} {w : World} {s : Nat} (h : DS I Fp B bs r fr w) (hs : Stp F0 Fp w0 w) (hs0 : F0 s ∨ w0.heap.size ≤ s) (h11 : B 11 = some (.pointer (some ⟨s, 0, none⟩))) (h12 : B 12 = some (.int .i64 1)) (h13 : B 13 = some (.pointer none))
    (hk : Kp w Fp s (.cells #[.pointer none, .int .i64 0, .string ⟨#[]⟩, .string ⟨#[97]⟩, .bool false] 114)) :
    Calls Tryz.prog 53 #[.pointer (some ⟨I.dd, 0, none⟩)] w fun e w' => e = .returned (.pointer (some ⟨s, 0, none⟩)) ∧ DS I Fp (upd (upd (upd B 12 (.int .i64 0)) 11 (.pointer none)) 13 (.pointer (some ⟨s, 0, none⟩))) bs r fr w' ∧ Stp F0 Fp w0 w' ∧ Kp w' Fp s (.cells #[.pointer none, .int .i64 0, .string ⟨#[]⟩, .string ⟨#[97]⟩, .bool false] 114) ∧ ∀ k o, k ≠ s → Kp w Fp k o → Kp w' Fp k o := by
  have c11 := (h.cellB 11 (by omega) (by omega)).trans h11
  have c12 := (h.cellB 12 (by omega) (by omega)).trans h12
  have c13 := (h.cellB 13 (by omega) (by omega)).trans h13
  have f11 := h.frozenD 11
  have f12 := h.frozenD 12
  have f13 := h.frozenD 13
  have s0 : w.cell? ⟨s, 0, none⟩ = some (.pointer none) := hk.cell 0
  have s1 : w.cell? ⟨s, 1, none⟩ = some (.int .i64 0) := hk.cell 1
  have g0 := hk.frozen 0
  have hne : s ≠ I.dd := fun e => hk.1 (e ▸ h.fpd)
  have hne' : I.dd ≠ s := fun e => hne e.symm
  have H := Lib.hid h
  have HK := Lib.hid hk
  have HS := Lib.hid hs
  clear h hk hs
  go_enter Tryz.func53, Tryz.ntmps53
  go_wp2
  go_ret
  have hD1 := H.out.setB 12 (by omega) (.int .i64 0) h12
  have hD2 := hD1.setB 11 (by omega) (.pointer none) (by rw [upd_other B _ (by decide)]; exact h11)
  have hD3 := hD2.far (b := s) (i := 0) HK.out.1 (.pointer none)
  have hD4 := hD3.setB 13 (by omega) (.pointer (some ⟨s, 0, none⟩)) (by rw [upd_other _ _ (by decide), upd_other _ _ (by decide)]; exact h13)
  refine ⟨rfl, hD4, ?_, ?_, ?_⟩
  · exact (((HS.out.trans (Stp.setD H.out 12 _)).trans (Stp.setD hD1 11 _)).new_or hs0 _).trans (Stp.setD hD3 13 _)
  · exact (((HK.out.far hne _).far hne _).set_ 0 (.pointer none)).far hne _
  · intro k o hks hko
    have hkd : k ≠ I.dd := fun e => hko.1 (e ▸ H.out.fpd)
    exact (((hko.far hkd _).far hkd _).far hks _).far hkd _

end Go.Proofs.YthhmnnojgjpibaaGreatDoor
namespace Go.Proofs.YthhmnnojgjpibaaGreatDoor
open Go Go.RowKit Go.Lib

attribute [local go_sem ↓] Go.wp_at_zero Go.wp_at_succ
/-- The decoder with the element taken off its stack. -/
abbrev popB (B : Nat → Option Value) (s : Nat) : Nat → Option Value := upd (upd (upd B 12 (.int .i64 0)) 11 (.pointer none)) 13 (.pointer (some ⟨s, 0, none⟩))
section
variable {Fp Fp' : Nat → Prop} {w w' : World} {k : Nat} {o : Obj}
theorem Kp.drewN (h : Kp w Fp k o) (n : Nat) : Kp (w.drewN n) Fp k o := h
end
set_option maxHeartbeats 8000000 in
set_option maxRecDepth 100000 in
theorem popElement_ok {I : Ids} {F0 Fp : Nat → Prop} {w0 : World} {B : Nat → Option Value} {bs r : List UInt8} {fr : Bool} {w : World} {s k m clock : Nat} (hB : BOk I B) (h : DS I Fp B bs r fr w) (hs : Stp F0 Fp w0 w) (hs0 : F0 s ∨ w0.heap.size ≤ s) (hk0 : w0.heap.size ≤ k) (h11 : B 11 = some (.pointer (some ⟨s, 0, none⟩))) (h12 : B 12 = some (.int .i64 1)) (h13 : B 13 = some (.pointer none)) (h19 : B 19 = some (.map (some m)))
    (hk : Kp w Fp s (.cells #[.pointer none, .int .i64 0, .string ⟨#[]⟩, .string ⟨#[97]⟩, .bool false] 114)) (hn : Kp w Fp k (.cells #[.string ⟨#[]⟩, .string ⟨#[97]⟩] 100)) (hm : Kp w Fp m (.map #[] clock)) :
    Calls Tryz.prog 31 #[.pointer (some ⟨I.dd, 0, none⟩), .pointer (some ⟨k, 0, none⟩)] w fun e w' => e = .returned (.bool true) ∧ DS I Fp (popB B s) bs r fr w' ∧ Stp F0 Fp w0 w' ∧ Kp w' Fp k (.cells #[.string ⟨#[]⟩, .string ⟨#[97]⟩] 100) ∧ Kp w' Fp m (.map #[] clock) := by
  have hks : k ≠ s := by
    rintro rfl
    have := hk.2.symm.trans hn.2
    simp at this
  have hms : m ≠ s := by
    rintro rfl
    have := hk.2.symm.trans hm.2
    simp at this
  have H := Lib.hid h
  have HS := Lib.hid hs
  have HB := Lib.hid hB
  have HK := Lib.hid hk
  have HN := Lib.hid hn
  have HM := Lib.hid hm
  clear h hs hB hk hn hm
  go_enter Tryz.func31, Tryz.ntmps31
  go_wp2_with (go_at_call 53; refine (pop_ok H.out HS.out hs0 h11 h12 h13 HK.out).mono ?_; rintro e w1 ⟨rfl, hd1, hs1, hk1, hkp1⟩; refine Hid.out ?_)
  refine Lib.hid ?_
  have hn1 := hkp1 _ _ hks HN.out
  have hm1 := hkp1 _ _ hms HM.out
  have k0 : w1.cell? ⟨k, 0, none⟩ = some (.string ⟨#[]⟩) := hn1.cell 0
  have k1 : w1.cell? ⟨k, 1, none⟩ = some (.string ⟨#[97]⟩) := hn1.cell 1
  have hkl := hn1.lt
  have s1 : w1.cell? ⟨s, 1, none⟩ = some (.int .i64 0) := hk1.cell 1
  have s2 : w1.cell? ⟨s, 2, none⟩ = some (.string ⟨#[]⟩) := hk1.cell 2
  have s3 : w1.cell? ⟨s, 3, none⟩ = some (.string ⟨#[97]⟩) := hk1.cell 3
  have hsl := hk1.lt
  have HD1 := Lib.hid hd1
  have HS1 := Lib.hid hs1
  have HN1 := Lib.hid hn1
  have HM1 := Lib.hid hm1
  have HK1 := Lib.hid hk1
  clear hd1 hs1 hk1 hkp1 hn1 hm1
  go_wp2
  have hnn := Kp.new_ w1 HD1.out.lt (.cells #[.string ⟨#[]⟩, .string ⟨#[97]⟩] 76)
  obtain ⟨V, hV⟩ : ∃ V, V = w1.alloc (.cells #[.string ⟨#[]⟩, .string ⟨#[97]⟩] 76) := ⟨_, rfl⟩
  have hd2 : DS I Fp (popB B s) bs r fr V := hV ▸ HD1.out.alloc _
  have hs2 : Stp F0 Fp w0 V := hV ▸ HS1.out.alloc _
  have hn2 : Kp V Fp k (.cells #[.string ⟨#[]⟩, .string ⟨#[97]⟩] 100) := hV ▸ HN1.out.alloc _
  have hm2 : Kp V Fp m (.map #[] clock) := hV ▸ HM1.out.alloc _
  have hk2 : Kp V Fp s (.cells #[.pointer none, .int .i64 0, .string ⟨#[]⟩, .string ⟨#[97]⟩, .bool false] 114) := hV ▸ HK1.out.alloc _
  rw [← hV] at hnn ⊢
  clear hV HD1 HS1 HN1 HM1 HK1 k0 k1 s1 s2 s3
  have n0 : V.cell? ⟨w1.heap.size, 0, none⟩ = some (.string ⟨#[]⟩) := hnn.cell 0
  have n1 : V.cell? ⟨w1.heap.size, 1, none⟩ = some (.string ⟨#[97]⟩) := hnn.cell 1
  have s2 : V.cell? ⟨s, 2, none⟩ = some (.string ⟨#[]⟩) := hk2.cell 2
  have s3 : V.cell? ⟨s, 3, none⟩ = some (.string ⟨#[97]⟩) := hk2.cell 3
  go_quiet (fail)
  obtain ⟨V1, hV1⟩ : ∃ V1, V1 = V.drewN nq := ⟨_, rfl⟩
  have hd3 : DS I Fp (popB B s) bs r fr V1 := hV1 ▸ hd2.drewN _
  have hs3 : Stp F0 Fp w0 V1 := hV1 ▸ hs2.drewN _
  have hn3 : Kp V1 Fp k (.cells #[.string ⟨#[]⟩, .string ⟨#[97]⟩] 100) := hV1 ▸ hn2.drewN _
  have hm3 : Kp V1 Fp m (.map #[] clock) := hV1 ▸ hm2.drewN _
  have hk3 : Kp V1 Fp s (.cells #[.pointer none, .int .i64 0, .string ⟨#[]⟩, .string ⟨#[97]⟩, .bool false] 114) := hV1 ▸ hk2.drewN _
  have hn4 : Kp V1 Fp w1.heap.size (.cells #[.string ⟨#[]⟩, .string ⟨#[97]⟩] 76) := hV1 ▸ hnn.drewN _
  rw [← hV1]
  clear hV1 hd2 hs2 hn2 hm2 hk2 n0 n1 s2 s3 hnn
  have n0 : V1.cell? ⟨w1.heap.size, 0, none⟩ = some (.string ⟨#[]⟩) := hn4.cell 0
  have s2 : V1.cell? ⟨s, 2, none⟩ = some (.string ⟨#[]⟩) := hk3.cell 2
  go_wp2
  go_quiet (fail)
  obtain ⟨V2, hV2⟩ : ∃ V2, V2 = V1.drewN nq := ⟨_, rfl⟩
  have hd5 : DS I Fp (popB B s) bs r fr V2 := hV2 ▸ hd3.drewN _
  have hs5 : Stp F0 Fp w0 V2 := hV2 ▸ hs3.drewN _
  have hn5 : Kp V2 Fp k (.cells #[.string ⟨#[]⟩, .string ⟨#[97]⟩] 100) := hV2 ▸ hn3.drewN _
  have hm5 : Kp V2 Fp m (.map #[] clock) := hV2 ▸ hm3.drewN _
  rw [← hV2]
  clear hV2 hd3 hs3 hn3 hm3 hk3 hn4 n0 s2
  have k0 : V2.cell? ⟨k, 0, none⟩ = some (.string ⟨#[]⟩) := hn5.cell 0
  have k1 : V2.cell? ⟨k, 1, none⟩ = some (.string ⟨#[97]⟩) := hn5.cell 1
  have g0 := hn5.frozen 0
  have d19 : V2.cell? ⟨I.dd, 19, none⟩ = some (.map (some m)) := (hd5.cellB 19 (by omega) (by omega)).trans (by simp only [popB]; rw [upd_other _ _ (by decide), upd_other _ _ (by decide), upd_other _ _ (by decide)]; exact h19)
  have d4 : V2.cell? ⟨I.dd, 4, none⟩ = some (.string ⟨#[]⟩) := (hd5.cellB 4 (by omega) (by omega)).trans (by simp only [popB]; rw [upd_other _ _ (by decide), upd_other _ _ (by decide), upd_other _ _ (by decide)]; exact HB.out.dsp)
  have hkm : m ≠ k := by
    rintro rfl
    have := hn5.2.symm.trans hm5.2
    simp at this
  have HTR := Lib.hid (tr_elem I.dd k m clock V2 k0 k1 g0 d19 d4 hm5.2)
  have HD6 := Lib.hid (hd5.far (i := 0) hn5.1 (.string ⟨#[]⟩))
  have HS6 := Lib.hid (hs5.new_ (i := 0) hk0 (.string ⟨#[]⟩))
  have HN6 := Lib.hid (hn5.set_ 0 (.string ⟨#[]⟩))
  have HM6 := Lib.hid (hm5.far (i := 0) hkm (.string ⟨#[]⟩))
  clear hd5 hs5 hn5 hm5 k0 k1 g0 d19 d4
  go_wp2_with (go_at_call 30; refine HTR.out.mono ?_; rintro e w6 ⟨rfl, n6, q6⟩; have HF7 := Lib.hid (⟨q6 ▸ HD6.out.drewN _, q6 ▸ HS6.out.drewN _, q6 ▸ HN6.out.drewN _, q6 ▸ HM6.out.drewN _⟩ : DS I Fp (popB B s) bs r fr w6 ∧ Stp F0 Fp w0 w6 ∧ Kp w6 Fp k (.cells #[.string ⟨#[]⟩, .string ⟨#[97]⟩] 100) ∧ Kp w6 Fp m (.map #[] clock)); clear q6; have d11 : w6.cell? ⟨I.dd, 11, none⟩ = some (.pointer none) := (HF7.out.1.cellB 11 (by omega) (by omega)).trans (by simp only [popB]; rw [upd_other _ _ (by decide), upd_same]))
  go_wp2
  refine wp_loop_rounds 1 ?_; rw [rounds_succ]
  go_wp2
  go_ret
  exact ⟨rfl, HF7.out⟩

end Go.Proofs.YthhmnnojgjpibaaGreatDoor
