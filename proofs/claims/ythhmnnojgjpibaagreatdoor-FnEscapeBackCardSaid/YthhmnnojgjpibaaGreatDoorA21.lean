/- impl: Tokens, of '<a ..>text</a>': a start tag, a text, an end tag, the end. laws: readsXML. Writing whatever stretch into a bytes.Buffer, an empty one too. -/
import Derived.Test.YthhmnnojgjpibaaGreatDoorA20
import Derived.Test.YthhmnnojgjpibaaGreatDoorA06
import Derived.Test.YthhmnnojgjpibaaGreatDoorA01

set_option linter.unusedVariables false
set_option linter.unusedSimpArgs false

namespace Go.Proofs.YthhmnnojgjpibaaGreatDoor
open Go Go.RowKit Go.Lib

attribute [local go_sem ↓] Go.wp_at_zero Go.wp_at_succ
/-- The three tokens. -/
abbrev tok123 (v : List UInt8) (av : Value) (o : Nat → Int) : List Value := tok1 av (o 0) (o 1) (o 2) ++ tok2 v (o 3) (o 4) (o 5) ++ tok3 (o 6) (o 7) (o 8)
section
variable {I : Ids} {F0 : Nat → Prop} {w0 : World} {B : Nat → Option Value} {v : List UInt8} {ats : List At} {fb m clock B0 : Nat} {ev : Value}
/-- How far Tokens has come: gk rounds are left that bring a token. -/
def TokJ (I : Ids) (F0 : Nat → Prop) (w0 : World) (B : Nat → Option Value) (v : List UInt8) (ats : List At) (fb m clock : Nat) (gk : Nat) (a : Act) (wx : World) : Prop :=
  (gk = 3 ∧ ∃ Fp bs fr, TokA I fb (.slice none 0 0) 2000000 0 a ∧ TS I F0 w0 B (60 :: 97 :: (ats.flatMap atB ++ 62 :: (esc v ++ [60, 47, 97, 62]))) Fp bs fr (.slice none 0 0) 0 [] (.slice none 0 0) [] [(fb, .cells noF 27 (0, 0)), (m, .map #[] clock)] wx) ∨
  (gk = 2 ∧ ∃ Fp bs fr tv av s left o l c, 1700000 ≤ left ∧ left ≤ 2000000 ∧ w0.heap.size ≤ s ∧ TokA I fb tv left 1 a ∧ TS I F0 w0 (pushB B s) (esc v ++ [60, 47, 97, 62]) Fp bs fr tv 1 (tok1 av o l c) av ats [(fb, .cells noF 27 (0, 0)), (m, .map #[] clock), (s, stkO)] wx) ∨
  (gk = 1 ∧ ∃ Fp bs fr tv av s left o l c o2 l2 c2, 1400000 ≤ left ∧ left ≤ 2000000 ∧ w0.heap.size ≤ s ∧ TokA I fb tv left 2 a ∧ TS I F0 w0 (pushB B s) [60, 47, 97, 62] Fp bs fr tv 2 (tok1 av o l c ++ tok2 v o2 l2 c2) av ats [(fb, .cells noF 27 (0, 0)), (m, .map #[] clock), (s, stkO)] wx) ∨
  (gk = 0 ∧ ∃ Fp bs tv av s left o, TokA I fb tv left 3 a ∧ TS I F0 w0 (popB (pushB B s) s) [] Fp bs true tv 3 (tok123 v av o) av ats [(fb, .cells noF 27 (0, 0))] wx)
set_option maxHeartbeats 4000000 in
theorem tok_loop {Q0 : Exit → Act → World → Prop} (hI : IdOk I) (hB : BOk I B) (h11 : B 11 = some (.pointer none)) (h12 : B 12 = some (.int .i64 0)) (h13 : B 13 = some (.pointer none)) (h19 : B 19 = some (.map (some m)))
    (hA : ∀ a ∈ ats, AtR a) (hl : ats.length ≤ 100) (hv : v.length ≤ 1000) (hg : Good v) (hne : v ≠ []) (hF : ∀ k, F0 k → B0 ≤ k) (hz : B0 ≤ w0.heap.size) (hBp : 0 < B0) (hfb : B0 ≤ fb) (hT : U8 B0 w0) (hev : EofV ev w0)
    {a : Act} {w : World} {Fp : Nat → Prop} {bs : List UInt8} {fr : Bool} (ha : TokA I fb (.slice none 0 0) 2000000 0 a)
    (hS : TS I F0 w0 B (60 :: 97 :: (ats.flatMap atB ++ 62 :: (esc v ++ [60, 47, 97, 62]))) Fp bs fr (.slice none 0 0) 0 [] (.slice none 0 0) [] [(fb, .cells noF 27 (0, 0)), (m, .map #[] clock)] w)
    (hX : ∀ a' w' tv av o, TokE fb tv a' → TE B0 w0 tv 3 (tok123 v av o) av ats fb eofF w' → Q0 .ret a' w') :
    Code.wp Tryz.prog (Code.loop tokBody) Q0 a w := by
  refine wp_loop_ghost (TokJ I F0 w0 B v ats fb m clock) 3 (.inl ⟨rfl, Fp, bs, fr, ha, hS⟩) ?_
  rintro n a wr (⟨rfl, Fp, bs, fr, ha, hS⟩ | ⟨rfl, Fp, bs, fr, tv, av, s, left, o, l, c, k1, k2, k3, ha, hS⟩ | ⟨rfl, Fp, bs, fr, tv, av, s, left, o, l, c, o2, l2, c2, k1, k2, k3, ha, hS⟩ | ⟨rfl, Fp, bs, tv, av, s, left, o, ha, hS⟩)
  · obtain ⟨u, rfl⟩ := frameTok ha
    refine tok_round ⟨_, _, rfl⟩ (by omega) (by omega) (by omega) (by omega) (rd_start hI hB h11 h12 h13 h19 hA hl hF hz hT hS) ?_
    rintro a' w' tv' left' k s1 s2 s3 V o l c ha' hl1 hl2 ⟨B', rest', Fp', bs', fr', av', ats', ks', ⟨rfl, rfl, rfl, rfl, rfl, rfl, rfl, rfl, s, hs, rfl, rfl⟩, hS'⟩
    exact ⟨2, by omega, .inr (.inl ⟨rfl, Fp', bs', true, tv', _, s, left', o, l, c, by omega, by omega, hs, ha', hS'⟩)⟩
  · obtain ⟨u, rfl⟩ := frameTok ha
    refine tok_round hS.row.form (by omega) (by omega) (by omega) (by omega) (rd_text hI hB hv hg hne hF hz hT (by simp) hS) ?_
    rintro a' w' tv' left' k s1 s2 s3 V o2 l2 c2 ha' hl1 hl2 ⟨B', rest', Fp', bs', fr', av', ats', ks', ⟨rfl, rfl, rfl, rfl, rfl, rfl, rfl, rfl, rfl, rfl⟩, hS'⟩
    exact ⟨1, by omega, .inr (.inr (.inl ⟨rfl, Fp', bs', fr', tv', _, s, left', o, l, c, o2, l2, c2, by omega, by omega, k3, ha', hS'⟩))⟩
  · obtain ⟨u, rfl⟩ := frameTok ha
    refine tok_round hS.row.form (by omega) (by omega) (by omega) (by omega) (rd_close hI hB h13 h19 k3 hS) ?_
    rintro a' w' tv' left' k s1 s2 s3 V o3 l3 c3 ha' hl1 hl2 ⟨B', rest', Fp', bs', fr', av', ats', ks', ⟨rfl, rfl, rfl, rfl, rfl, rfl, rfl, rfl, rfl, rfl, rfl⟩, hS'⟩
    exact ⟨0, by omega, .inr (.inr (.inr ⟨rfl, Fp', bs', tv', _, s, left', fun i => if i = 0 then o else if i = 1 then l else if i = 2 then c else if i = 3 then o2 else if i = 4 then l2 else if i = 5 then c2 else if i = 6 then o3 else if i = 7 then l3 else c3, ha', hS'⟩))⟩
  · obtain ⟨u, rfl⟩ := frameTok ha
    exact tok_eof hS.row.form (by omega) hfb (Nat.le_trans hz hS.st.1.size) (rd_eof hI hB hBp hF hz hev hS) fun a' w' h1 h2 => hX a' w' tv av o h1 h2
end
set_option maxRecDepth 1000000 in
/-- The frame behind the loop. -/
theorem frameEnd {fb : Nat} {tv : Value} {a : Act} (h : TokE fb tv a) : ∃ u : Nat → Value, a = ⟨List.toArray (u 0 :: u 1 :: u 2 :: u 3 :: u 4 :: u 5 :: tv :: .pointer (some ⟨fb, 0, none⟩) :: .bool false :: u 9 :: u 10 :: u 11 :: u 12 :: u 13 :: u 14 :: u 15 :: u 16 :: u 17 :: u 18 :: u 19 :: u 20 :: u 21 :: u 22 :: u 23 :: u 24 :: u 25 :: u 26 :: u 27 :: u 28 :: u 29 :: u 30 :: u 31 :: u 32 :: u 33 :: u 34 :: u 35 :: u 36 :: u 37 :: u 38 :: u 39 :: u 40 :: u 41 :: u 42 :: u 43 :: u 44 :: u 45 :: u 46 :: u 47 :: u 48 :: u 49 :: u 50 :: u 51 :: u 52 :: u 53 :: u 54 :: u 55 :: u 56 :: u 57 :: u 58 :: u 59 :: u 60 :: u 61 :: []), []⟩ := by
  obtain ⟨t, d⟩ := a
  obtain ⟨hd, hs, h6, h7, h8⟩ := h
  simp only at hd hs h6 h7 h8
  subst hd
  have e : t = ((List.range 62).map (fun i => t.getD i undef)).toArray := by
    apply Array.ext
    · simp [hs]
    · intro i hi1 hi2
      simp [Array.getD, hi1]
  obtain ⟨u, hu⟩ : ∃ u : Nat → Value, u = fun i => t.getD i undef := ⟨_, rfl⟩
  have e2 : (List.range 62).map u = u 0 :: u 1 :: u 2 :: u 3 :: u 4 :: u 5 :: u 6 :: u 7 :: u 8 :: u 9 :: u 10 :: u 11 :: u 12 :: u 13 :: u 14 :: u 15 :: u 16 :: u 17 :: u 18 :: u 19 :: u 20 :: u 21 :: u 22 :: u 23 :: u 24 :: u 25 :: u 26 :: u 27 :: u 28 :: u 29 :: u 30 :: u 31 :: u 32 :: u 33 :: u 34 :: u 35 :: u 36 :: u 37 :: u 38 :: u 39 :: u 40 :: u 41 :: u 42 :: u 43 :: u 44 :: u 45 :: u 46 :: u 47 :: u 48 :: u 49 :: u 50 :: u 51 :: u 52 :: u 53 :: u 54 :: u 55 :: u 56 :: u 57 :: u 58 :: u 59 :: u 60 :: u 61 :: [] := by kernel_rfl
  have g6 : u 6 = _ := (congrFun hu 6).trans h6
  have g7 : u 7 = _ := (congrFun hu 7).trans h7
  have g8 : u 8 = _ := (congrFun hu 8).trans h8
  rw [g6, g7, g8] at e2
  rw [← hu, e2] at e
  exact ⟨u, by rw [e]⟩
/-- What Tokens hands back, of '<a ..>text</a>'. -/
def TokP (B0 : Nat) (v : List UInt8) (ats : List At) (w : World) (e : Ending) (w' : World) : Prop :=
  ∃ tv av o b, e = .returned (.tuple #[tv, .agg eofF, .bool false]) ∧ w'.ownsRow b 35 8 tv 3 (tok123 v av o) ∧ w'.ownsRow b 37 3 av ats.length (ats.flatMap atC) ∧ Below B0 w w'
set_option maxHeartbeats 8000000 in
set_option maxRecDepth 100000 in
theorem tokens_ok {pl B0 : Nat} {X : ByteArray} {w : World} {ats : List At} {v : List UInt8} {ev : Value} (hX : X.size ≤ 90000) (hp : w.cell? ⟨pl, 0, none⟩ = some (.string X)) (hdoc : X.data.toList = docB ats v) (hA : ∀ a ∈ ats, AtR a) (hl : ats.length ≤ 100) (hv : v.length ≤ 1000) (hg : Good v) (hne : v ≠ [])
    (hB0 : B0 ≤ pl) (hBp : 0 < B0) (hT : U8 B0 w) (hev : EofV ev w) :
    Calls Tryz.prog 7 #[.slice (some ⟨pl, 0, none⟩) 1 1, .bool false, .agg #[.bool false, .slice none 0 0, .slice none 0 0, .slice none 0 0, .string ⟨#[]⟩]] w (TokP B0 v ats w) := by
  go_enter Tryz.func7, Tryz.ntmps7
  go_wp2_with (go_at_call 10; refine Hid.out ?_)
  refine Lib.hid ?_
  obtain ⟨W, hW⟩ : ∃ W, W = (w.alloc (.cells #[.bool false, .slice none 0 0, .slice none 0 0, .slice none 0 0, .string ⟨#[]⟩] 32)).alloc (.cells noF 27) := ⟨_, rfl⟩
  have hpW : W.cell? ⟨pl, 0, none⟩ = some (.string X) := by
    rw [hW]
    exact ((Below.alloc2 w _ _).cell (p := ⟨pl, 0, none⟩) (lt_of_cell hp)).trans hp
  have hs : W.heap.size = w.heap.size + 2 := by rw [hW]; simp
  have hb : Below w.heap.size w W := by rw [hW]; exact Below.alloc2 w _ _
  have hfW : W.heap[w.heap.size + 1]? = some (.cells noF 27 (0, 0)) := by
    have := heap_alloc_new (w.alloc (.cells #[.bool false, .slice none 0 0, .slice none 0 0, .slice none 0 0, .string ⟨#[]⟩] 32)) (.cells noF 27)
    rw [World.size_alloc] at this
    rw [hW]; exact this
  rw [← hW]
  have HH := Lib.hid (⟨hpW, hs, hb, hfW⟩ : _ ∧ _ ∧ _ ∧ _)
  refine (decoder_ok hX hpW).mono ?_
  clear hW hpW hs hb hfW
  rintro e w1 ⟨rfl, hn⟩
  have HN := Lib.hid hn
  clear hn
  have HA := Lib.hid hA
  have HG := Lib.hid hg
  have HNE := Lib.hid hne
  have HT := Lib.hid hT
  have HV := Lib.hid hev
  have HD := Lib.hid hdoc
  clear hA hg hne hT hev hdoc
  go_wp2
  obtain ⟨hpW, hsW, hbW, hfW⟩ := HH.out
  have hpl : pl < w.heap.size := lt_of_cell hp
  have hw1 := HN.out.size
  have hd0 : DS (idsOf W.heap.size pl X) (fpOf W.heap.size pl) (baseOf W.heap.size) [] (60 :: 97 :: (ats.flatMap atB ++ 62 :: (esc v ++ [60, 47, 97, 62]))) true w1 := ⟨_, _, _, _, by have := ds_new HN.out hpW; rw [HD.out] at this; exact this⟩
  have hI : IdOk (idsOf W.heap.size pl X) := ⟨by simp only; omega, by simp only; omega, by simp only; omega, by simp only; omega, by simp only; omega⟩
  have hF : ∀ k, fpOf W.heap.size pl k → B0 ≤ k := by rintro k (rfl | rfl | rfl | rfl | rfl) <;> omega
  have hz : B0 ≤ w1.heap.size := by omega
  have hb1 : Below B0 w w1 := (hbW.mono (by omega)).trans (HN.out.below.mono (by omega))
  have hT1 : U8 B0 w1 := fun w2 hb => HT.out w2 (hb1.trans hb)
  have hev1 : EofV ev w1 := HV.out.keep (hb1.block 0 hBp)
  have hm : Kp w1 (fpOf W.heap.size pl) (W.heap.size + 2) (.map #[] 0) := ⟨by rintro (h | h | h | h | h) <;> omega, HN.out.map⟩
  have hf : Kp w1 (fpOf W.heap.size pl) (w.heap.size + 1) (.cells noF 27 (0, 0)) := ⟨by rintro (h | h | h | h | h) <;> omega, (HN.out.below.block _ (by omega)).trans hfW⟩
  have hS : TS (idsOf W.heap.size pl X) (fpOf W.heap.size pl) w1 (baseOf W.heap.size) (60 :: 97 :: (ats.flatMap atB ++ 62 :: (esc v ++ [60, 47, 97, 62]))) (fpOf W.heap.size pl) [] true (.slice none 0 0) 0 [] (.slice none 0 0) [] [(w.heap.size + 1, .cells noF 27 (0, 0)), (W.heap.size + 2, .map #[] 0)] w1 := by
    refine ⟨hd0, Stp.refl _ _, ⟨World.ownsRow_nil _ _ _ _, fun g e => by cases e⟩, ⟨World.ownsRow_nil _ _ _ _, fun g e => by cases e⟩, fun p hp => ?_, fun p _ g e => by cases e⟩
    simp only [List.mem_cons, List.not_mem_nil, or_false] at hp
    rcases hp with rfl | rfl
    · exact hf
    · exact hm
  have HB1 := Lib.hid hb1
  refine tok_loop (B0 := B0) hI bok_new rfl rfl rfl rfl HA.out hl hv HG.out HNE.out hF hz hBp (by omega) hT1 hev1 (by exact ⟨rfl, rfl, rfl, rfl, rfl, rfl, rfl, rfl⟩) hS ?_
  intro a' w' tv av o hE hTE
  obtain ⟨u, rfl⟩ := frameEnd hE
  have hfb := hTE.fb
  have c0 : w'.cell? ⟨w.heap.size + 1, 0, none⟩ = some (.int .i64 2) := Lib.cell_of_heap hfb 0
  have c1 : w'.cell? ⟨w.heap.size + 1, 1, none⟩ = some (.int .i64 0) := Lib.cell_of_heap hfb 1
  have c2 : w'.cell? ⟨w.heap.size + 1, 2, none⟩ = some (.string ⟨#[]⟩) := Lib.cell_of_heap hfb 2
  have c3 : w'.cell? ⟨w.heap.size + 1, 3, none⟩ = some (.string ⟨#[]⟩) := Lib.cell_of_heap hfb 3
  have c4 : w'.cell? ⟨w.heap.size + 1, 4, none⟩ = some (.string ⟨#[]⟩) := Lib.cell_of_heap hfb 4
  have c5 : w'.cell? ⟨w.heap.size + 1, 5, none⟩ = some (.string ⟨#[]⟩) := Lib.cell_of_heap hfb 5
  have c6 : w'.cell? ⟨w.heap.size + 1, 6, none⟩ = some (.string ⟨#[]⟩) := Lib.cell_of_heap hfb 6
  have c7 : w'.cell? ⟨w.heap.size + 1, 7, none⟩ = some (.string ⟨#[]⟩) := Lib.cell_of_heap hfb 7
  have c8 : w'.cell? ⟨w.heap.size + 1, 8, none⟩ = some (.string ⟨#[]⟩) := Lib.cell_of_heap hfb 8
  show bodyPost Tryz.prog Tryz.f7 (TokP B0 v ats w) Exit.ret _ w'
  exact bodyPost_ret (v := .tuple #[tv, .agg eofF, .bool false]) (by simp [results, Tryz.results7, go_sem, c0, c1, c2, c3, c4, c5, c6, c7, c8]) rfl ⟨tv, av, o, _, rfl, hTE.row, hTE.arow, HB1.out.trans hTE.low⟩

end Go.Proofs.YthhmnnojgjpibaaGreatDoor
namespace Go.Proofs.YthhmnnojgjpibaaGreatDoor
open Go Go.RowKit Go.Lib

attribute [local go_sem ↓] Go.wp_at_zero Go.wp_at_succ
theorem good1 : Good [98] := .step (by decide) (by decide) (by decide) .nil
theorem add0 (g j : Nat) : (⟨g, 0, none⟩ : Addr).add j = ⟨g, j, none⟩ := by unfold Addr.add; split <;> simp_all
theorem own_c {w : World} {b e k n c g j : Nat} {xs : List Value} {u : Value} (h : w.ownsRow b e k (.slice (some ⟨g, 0, none⟩) n c) n xs) (hj : xs[j]? = some u) : w.cell? ⟨g, j, none⟩ = some u := by
  rw [← add0]
  exact h.cells rfl j u hj
set_option maxHeartbeats 8000000 in
set_option maxRecDepth 100000 in
theorem readsXML_ok {B0 : Nat} {ev : Value} {w : World} (hB : B0 ≤ w.heap.size) (hBp : 0 < B0) (hT : U8 B0 w) (hev : EofV ev w) :
    Calls Tryz.prog 4 #[] w fun e w' => e = .returned (.bool true) ∧ Below B0 w w' := by
  have hb : Below w.heap.size w (w.alloc (.cells #[.string ⟨#[60, 97, 62, 98, 60, 47, 97, 62]⟩] 9)) := Below.alloc1 _ _
  have hT1 : U8 B0 (w.alloc (.cells #[.string ⟨#[60, 97, 62, 98, 60, 47, 97, 62]⟩] 9)) := fun w2 h2 => hT w2 ((hb.mono hB).trans h2)
  have hev1 : EofV ev (w.alloc (.cells #[.string ⟨#[60, 97, 62, 98, 60, 47, 97, 62]⟩] 9)) := hev.keep (hb.block 0 (by omega))
  have H := Lib.hid (tokens_ok (pl := w.heap.size) (B0 := B0) (X := ⟨#[60, 97, 62, 98, 60, 47, 97, 62]⟩) (ats := []) (v := [98]) (by decide) (Lib.cell_of_heap (heap_alloc_new w (.cells #[.string ⟨#[60, 97, 62, 98, 60, 47, 97, 62]⟩] 9)) 0) (by decide) (by simp) (by decide) (by decide) good1 (by decide) hB hBp hT1 hev1)
  have HB := Lib.hid hb
  clear hb hT1 hT hev1 hev
  go_enter Tryz.func4, Tryz.ntmps4
  go_wp2_with (go_at_call 7; refine Hid.out ?_)
  refine Lib.hid ?_
  refine H.out.mono ?_
  rintro e w1 ⟨tv, av, o, b, rfl, ho, ha, hb1⟩
  obtain ⟨g, cap, rfl, hbg, hgl⟩ := ho.form (by omega)
  have c0 : w1.cell? ⟨g, 0, none⟩ = some (.int .i64 1) := own_c ho rfl
  have c2 : w1.cell? ⟨g, 2, none⟩ = some (.string ⟨#[97]⟩) := own_c ho rfl
  have c8 : w1.cell? ⟨g, 8, none⟩ = some (.int .i64 3) := own_c ho rfl
  have c12 : w1.cell? ⟨g, 12, none⟩ = some (.string ⟨#[98]⟩) := own_c ho rfl
  have HB1 := Lib.hid hb1
  clear ho ha hb1
  go_wp2
  go_ret
  exact ⟨rfl, (HB.out.mono hB).trans (HB1.out.trans ((Below.alloc1 _ _).mono (Nat.le_trans hB (Nat.le_trans HB.out.size HB1.out.size))))⟩

end Go.Proofs.YthhmnnojgjpibaaGreatDoor
namespace Go.Proofs.YthhmnnojgjpibaaGreatDoor
open Go Go.RowKit Go.Lib

/-- A cut of a slice at the head of a row. -/
theorem cut_lh (g n cap i k : Nat) (hik : i ≤ k) (hk : k ≤ cap) : ∃ A : Option Addr, (i < k → A = some ⟨g, i, none⟩) ∧ ∀ W : World, (Instr.slice 39 (.slice (some ⟨g, 0, none⟩) n cap) (some (.int .i64 (i : Int))) (some (.int .i64 (k : Int))) none).run Tryz.prog W = .ok (.slice A (k - i) (cap - i)) W := by
  have e1 : Tryz.prog.underlying 39 = some (.slice (Tryz.prog.elem 39)) := by kernel_rfl
  have e2 : ∀ w, (sizeOf (Tryz.prog.elem 39)).run Tryz.prog w = .ok 1 w := fun w => by kernel_rfl
  refine ⟨if cap = i then some ⟨g, 0, none⟩ else some ⟨g, i, none⟩, fun h => if_neg (by omega), fun W => ?_⟩
  rw [run_slice_lh (P := Tryz.prog) W 39 _ n cap e1 .i64 .i64 (i : Int) (k : Int) (by omega) (by omega) (by omega), e2]
  simp only [Result.andThen, sliced, Int.toNat_natCast]
  have e : (⟨g, 0, none⟩ : Addr).add (i * 1) = ⟨g, i, none⟩ := by unfold Addr.add; split <;> simp_all
  simp only [Option.map_some, e]
theorem cut_l (g n cap i : Nat) (hik : i ≤ n) (hk : n ≤ cap) : ∃ A : Option Addr, (i < n → A = some ⟨g, i, none⟩) ∧ ∀ W : World, (Instr.slice 39 (.slice (some ⟨g, 0, none⟩) n cap) (some (.int .i64 (i : Int))) none none).run Tryz.prog W = .ok (.slice A (n - i) (cap - i)) W := by
  have e1 : Tryz.prog.underlying 39 = some (.slice (Tryz.prog.elem 39)) := by kernel_rfl
  have e2 : ∀ w, (sizeOf (Tryz.prog.elem 39)).run Tryz.prog w = .ok 1 w := fun w => by kernel_rfl
  refine ⟨if cap = i then some ⟨g, 0, none⟩ else some ⟨g, i, none⟩, fun h => if_neg (by omega), fun W => ?_⟩
  rw [run_slice_l (P := Tryz.prog) W 39 _ n cap e1 .i64 (i : Int) (by omega) (by omega), e2]
  simp only [Result.andThen, sliced, Int.toNat_natCast]
  have e : (⟨g, 0, none⟩ : Addr).add (i * 1) = ⟨g, i, none⟩ := by unfold Addr.add; split <;> simp_all
  simp only [Option.map_some, e]
/-- Write, of a stretch of whatever length. -/
theorem write_any {T : TypeId} {R : Nat → Option Value} {b q : Nat} {G : Option Nat} {bs : List UInt8} {w : World} (h : BF T R b q G bs w) (hG : bs = [] → G = none) (xs : List UInt8) (n : Nat) (hn : n = xs.length) (A : Option Addr) (c : Nat)
    (hA : xs ≠ [] → ∃ sb so, A = some ⟨sb, so, none⟩ ∧ sb ≠ b ∧ ∀ j x, xs[j]? = some x → w.cell? ⟨sb, so + j, none⟩ = some (.int .u8 (x.toNat : Int))) (hlim : bs.length + xs.length ≤ 1000000) :
    Calls Tryz.prog 151 #[.pointer (some ⟨b, q, none⟩), .slice A n c] w fun e w' => e = .returned (.tuple #[.int .i64 n, .nilIface]) ∧ ∃ G', BF T R b q G' (bs ++ xs) w' ∧ (bs ++ xs = [] → G' = none) ∧ BStep b G G' w w' := by
  subst hn
  by_cases hx : xs = []
  · subst hx
    refine (write_zero h A c).mono ?_
    rintro e w' ⟨rfl, hb, hE⟩
    exact ⟨rfl, G, by simpa using hb, by simpa using hG, hE.mono fun k _ e => .inl e, fun g hg => .inl hg.symm⟩
  · obtain ⟨sb, so, rfl, hsb, hsrc⟩ := hA hx
    refine (write_ok h xs sb so c (List.length_pos_iff.2 hx) hsb hsrc (fun e => .inl (hG e)) hlim).mono ?_
    rintro e w' ⟨rfl, G', _, hb, hS⟩
    exact ⟨rfl, G', hb, fun e => absurd (List.append_eq_nil_iff.1 e).2 hx, hS⟩
/-- What escapeText keeps: the buffer in b; the text's row in sb. -/
structure EsS (R : Nat → Option Value) (b sb : Nat) (v bs : List UInt8) (w0 w : World) : Prop where
  buf : ∃ G, BF 43 R b 0 G bs w ∧ (bs = [] → G = none) ∧ ∀ g, G = some g → w0.heap.size ≤ g
  src : ∀ j x, v[j]? = some x → w.cell? ⟨sb, j, none⟩ = some (.int .u8 (x.toNat : Int))
  ext : Ext (fun k => k = b) w0 w
  lb : b < w0.heap.size
  lt : sb < w0.heap.size
  ne : sb ≠ b
section
variable {R : Nat → Option Value} {b sb : Nat} {v bs : List UInt8} {w0 w w' : World}
theorem EsS.below (h : EsS R b sb v bs w0 w) (hb : Below w.heap.size w w') : EsS R b sb v bs w0 w' := by
  obtain ⟨G, h1, h2, h3⟩ := h.buf
  have hs := h.ext.size
  refine ⟨⟨G, h1.keep (hb.block b (Nat.lt_of_lt_of_le h.lb hs)) (fun g hg => hb.block g ?_), h2, h3⟩, fun j x e => ?_, h.ext.trans (Ext.of_below hb), h.lb, h.lt, h.ne⟩
  · obtain ⟨lr, ⟨e, _⟩ | ⟨g', cap, cur, e, _, _, e4, _⟩⟩ := h1
    · rw [e] at hg; cases hg
    · rw [e] at hg; cases hg; exact Lib.lt_of_heap e4
  · exact (hb.cell (p := ⟨sb, j, none⟩) (Nat.lt_of_lt_of_le h.lt hs)).trans (h.src j x e)
theorem EsS.write (h : EsS R b sb v bs w0 w) (xs : List UInt8) (n : Nat) (hn : n = xs.length) (A : Option Addr) (c : Nat)
    (hA : xs ≠ [] → ∃ sb so, A = some ⟨sb, so, none⟩ ∧ sb ≠ b ∧ ∀ j x, xs[j]? = some x → w.cell? ⟨sb, so + j, none⟩ = some (.int .u8 (x.toNat : Int))) (hlim : bs.length + xs.length ≤ 1000000) :
    Calls Tryz.prog 151 #[.pointer (some ⟨b, 0, none⟩), .slice A n c] w fun e w' => e = .returned (.tuple #[.int .i64 n, .nilIface]) ∧ EsS R b sb v (bs ++ xs) w0 w' := by
  obtain ⟨G, h1, h2, h3⟩ := h.buf
  have hs := h.ext.size
  refine (write_any h1 h2 xs n hn A c hA hlim).mono ?_
  rintro e w' ⟨rfl, G', hb, hg, hS⟩
  have he : ∀ k, k < w0.heap.size → k ≠ b → w'.heap[k]? = w.heap[k]? := fun k hk hkb => hS.1.block k (Nat.lt_of_lt_of_le hk hs) fun e => e.elim hkb fun e => by have := h3 k e.symm; omega
  refine ⟨rfl, ⟨G', hb, hg, fun g hgg => ?_⟩, fun j x e => ?_, ?_, h.lb, h.lt, h.ne⟩
  · rcases hS.2 g hgg with e | e
    · exact h3 g e.symm
    · exact Nat.le_trans hs e.1
  · exact (World.cell?_of_block (he sb h.lt h.ne)).trans (h.src j x e)
  · exact ⟨hS.1.os.trans h.ext.os, hS.1.tape.trans h.ext.tape, hS.1.output.trans h.ext.output, Nat.le_trans hs hS.1.size, fun k hk hn => (he k hk hn).trans (h.ext.block k hk hn)⟩
/-- .. of a stretch of the text itself. -/
theorem EsS.stretch (h : EsS R b sb v bs w0 w) (i k : Nat) (hik : i ≤ k) (hk : k ≤ v.length) (A : Option Addr) (c : Nat) (hA : i < k → A = some ⟨sb, i, none⟩) (hlim : bs.length + v.length ≤ 1000000) :
    Calls Tryz.prog 151 #[.pointer (some ⟨b, 0, none⟩), .slice A (k - i) c] w fun e w' => e = .returned (.tuple #[.int .i64 ((k - i : Nat) : Int), .nilIface]) ∧ EsS R b sb v (bs ++ (v.drop i).take (k - i)) w0 w' := by
  have hl : ((v.drop i).take (k - i)).length = k - i := by simp; omega
  refine h.write _ (k - i) hl.symm A c (fun hne => ?_) (by rw [hl]; omega)
  have hlt : i < k := by
    rcases Nat.lt_or_ge i k with h | h
    · exact h
    · exact absurd (by rw [show k - i = 0 by omega]; simp) hne
  refine ⟨sb, i, hA hlt, h.ne, fun j x e => h.src (i + j) x ?_⟩
  have hj := (List.getElem?_eq_some_iff.1 e).1
  rw [hl] at hj
  rw [List.getElem?_take_of_lt hj, List.getElem?_drop] at e
  exact e
end

end Go.Proofs.YthhmnnojgjpibaaGreatDoor
