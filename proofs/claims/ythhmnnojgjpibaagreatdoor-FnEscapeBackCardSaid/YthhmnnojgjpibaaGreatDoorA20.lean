/- impl: Tokens: a round of its loop. impl: Tokens: the round in which the text ends. impl: Tokens: its loop over '<a ..>text</a>'. -/
import Derived.Test.YthhmnnojgjpibaaGreatDoorA19

set_option linter.unusedVariables false
set_option linter.unusedSimpArgs false

namespace Go.Proofs.YthhmnnojgjpibaaGreatDoor
open Go Go.RowKit Go.Lib

attribute [local go_sem ↓] Go.wp_at_zero Go.wp_at_succ
noncomputable def tokBody : Code := (Tryz.f7.body.bind firstLoop).getD .skip
/-- A token as its cells tell, with what else holds. -/
def TokV (M : Int → ByteArray → ByteArray → ByteArray → Value → World → Prop) (e : Ending) (w : World) : Prop :=
  ∃ (k : Int) (s1 s2 s3 : ByteArray) (A : Option Addr) (c : Nat) (zs : List At), e = .returned (.agg #[.int .i64 k, .string s1, .string s2, .slice A zs.length c, .string s3, .int .i64 0, .int .i64 0, .int .i64 0]) ∧
    s1.size ≤ 1000 ∧ s2.size ≤ 1000 ∧ s3.size ≤ 1000 ∧ zs.length ≤ 100 ∧ (∀ a ∈ zs, AtR a) ∧ (zs = [] ∨ ∃ b e, w.ownsRow b e 3 (.slice A zs.length c) zs.length (zs.flatMap atC)) ∧ M k s1 s2 s3 (.slice A zs.length c) w
/-- What is known of the decoder and the other blocks, whatever the world. -/
abbrev Kn := Int → ByteArray → ByteArray → ByteArray → Value → (Nat → Option Value) → List UInt8 → (Nat → Prop) → List UInt8 → Bool → Value → List At → List (Nat × Obj) → Prop
/-- The cells of a token. -/
abbrev tokC (k : Int) (s1 s2 : ByteArray) (V : Value) (s3 : ByteArray) (o l c : Int) : List Value := [.int .i64 k, .string s1, .string s2, V, .string s3, .int .i64 o, .int .i64 l, .int .i64 c]
/-- The block of a token. -/
abbrev tokB (k : Int) (s1 s2 : ByteArray) (V : Value) (s3 : ByteArray) (o l c : Int) : Array Value := #[.int .i64 k, .string s1, .string s2, V, .string s3, .int .i64 o, .int .i64 l, .int .i64 c]
def TsK (I : Ids) (F0 : Nat → Prop) (w0 : World) (Rn : Kn) (tv : Value) (n : Nat) (xs : List Value) (k : Int) (s1 s2 s3 : ByteArray) (V : Value) (w : World) : Prop :=
  ∃ B rest Fp bs fr av ats ks, Rn k s1 s2 s3 V B rest Fp bs fr av ats ks ∧ TS I F0 w0 B rest Fp bs fr tv n xs av ats ks w
theorem TS.ints {I : Ids} {F0 Fp : Nat → Prop} {w0 w : World} {B : Nat → Option Value} {rest bs : List UInt8} {fr : Bool} {tv : Value} {n : Nat} {xs : List Value} {av : Value} {ats : List At} {ks : List (Nat × Obj)} (h : TS I F0 w0 B rest Fp bs fr tv n xs av ats ks w) :
    ∃ x y z : Int, w.cell? ⟨I.dd, 21, none⟩ = some (.int .i64 x) ∧ w.cell? ⟨I.dd, 22, none⟩ = some (.int .i64 y) ∧ w.cell? ⟨I.dd, 23, none⟩ = some (.int .i64 z) := by
  obtain ⟨nb, line, lst, off, hD⟩ := h.ds
  exact ⟨_, _, _, hD.cell 21 (by omega), hD.cell 22 (by omega), hD.cell 23 (by omega)⟩
theorem TsK.below {I : Ids} {F0 : Nat → Prop} {w0 w w' : World} {Rn : Kn} {tv : Value} {n : Nat} {xs : List Value} {k : Int} {s1 s2 s3 : ByteArray} {V : Value} (h : TsK I F0 w0 Rn tv n xs k s1 s2 s3 V w) (hb : Below w.heap.size w w') : TsK I F0 w0 Rn tv n xs k s1 s2 s3 V w' := by
  obtain ⟨B, rest, Fp, bs, fr, av, ats, ks, hR, hS⟩ := h
  exact ⟨B, rest, Fp, bs, fr, av, ats, ks, hR, hS.below hb⟩
theorem TsK.ints {I : Ids} {F0 : Nat → Prop} {w0 w : World} {Rn : Kn} {tv : Value} {n : Nat} {xs : List Value} {k : Int} {s1 s2 s3 : ByteArray} {V : Value} (h : TsK I F0 w0 Rn tv n xs k s1 s2 s3 V w) :
    ∃ x y z : Int, w.cell? ⟨I.dd, 21, none⟩ = some (.int .i64 x) ∧ w.cell? ⟨I.dd, 22, none⟩ = some (.int .i64 y) ∧ w.cell? ⟨I.dd, 23, none⟩ = some (.int .i64 z) := by
  obtain ⟨B, rest, Fp, bs, fr, av, ats, ks, hR, hS⟩ := h
  exact hS.ints
theorem TsK.own {I : Ids} {F0 : Nat → Prop} {w0 w : World} {Rn : Kn} {tv : Value} {n : Nat} {xs : List Value} {k : Int} {s1 s2 s3 : ByteArray} {V : Value} (h : TsK I F0 w0 Rn tv n xs k s1 s2 s3 V w) : w.ownsRow w0.heap.size 35 8 tv n xs ∧ w0.heap.size ≤ w.heap.size := by
  obtain ⟨B, rest, Fp, bs, fr, av, ats, ks, hR, hS⟩ := h
  exact ⟨hS.row.1, hS.st.1.size⟩
theorem TsK.grow {I : Ids} {F0 : Nat → Prop} {w0 w w' : World} {Rn : Kn} {tv tv' : Value} {n n' : Nat} {xs xs' : List Value} {k : Int} {s1 s2 s3 : ByteArray} {V : Value} (h : TsK I F0 w0 Rn tv n xs k s1 s2 s3 V w) (hg : w.grownBy w' tv.ownBlock) (hown : w'.ownsRow w0.heap.size 35 8 tv' n' xs') {g : Nat} (hv : tv'.ownBlock = some g) (hat : tv.ownBlock = some g ∨ g = w.heap.size) : TsK I F0 w0 Rn tv' n' xs' k s1 s2 s3 V w' := by
  obtain ⟨B, rest, Fp, bs, fr, av, ats, ks, hR, hS⟩ := h
  exact ⟨B, rest, Fp, bs, fr, av, ats, ks, hR, hS.grow hg hown hv hat⟩
/-- The block of the token that is being made: what lies below is as it was. -/
structure NewT (w : World) (T : Nat) (cs : Array Value) (W : World) : Prop where
  below : Below w.heap.size w W
  ge : w.heap.size ≤ T
  lt : T < W.heap.size
  blk : W.heap[T]? = some (.cells cs 35 (0, 0))
theorem NewT.made (w : World) (cs : Array Value) : NewT w w.heap.size cs (w.alloc (.cells cs 35)) := ⟨Below.alloc1 _ _, Nat.le_refl _, by simp, heap_alloc_new w _⟩
section
variable {w W W' : World} {T : Nat} {cs : Array Value}
theorem NewT.set (h : NewT w T cs W) (i : Nat) (v : Value) : NewT w T (cs.setIfInBounds i v) (W.setCell ⟨T, i, none⟩ v) := ⟨h.below.set1 h.ge i v, h.ge, by rw [World.size_setCell]; exact h.lt, heap_setCell_same W T i cs 35 v h.blk⟩
theorem NewT.later (h : NewT w T cs W) (hb : Below W.heap.size W W') : NewT w T cs W' := ⟨h.below.trans (hb.mono h.below.size), h.ge, Nat.lt_of_lt_of_le h.lt hb.size, (hb.block T h.lt).trans h.blk⟩
theorem NewT.drewN (h : NewT w T cs W) (q : Nat) : NewT w T cs (W.drewN q) := ⟨⟨h.below.os, h.below.tape, h.below.output, h.below.size, h.below.block⟩, h.ge, h.lt, h.blk⟩
theorem NewT.cell (h : NewT w T cs W) (i : Nat) : W.cell? ⟨T, i, none⟩ = cs[i]? := Lib.cell_of_heap h.blk i
theorem NewT.frozen (h : NewT w T cs W) (i : Nat) : W.frozen? ⟨T, i, none⟩ = false := Lib.frozen_of_heap h.blk i
end
theorem own_below {w w' : World} {b e k n : Nat} {v : Value} {xs : List Value} (h : w.ownsRow b e k v n xs) (hb : Below w.heap.size w w') : w'.ownsRow b e k v n xs := ownG_kept h fun g he => hb.block g (ownG_lt h he).2
set_option maxHeartbeats 16000000 in
set_option maxRecDepth 1000000 in
theorem tok_round {I : Ids} {F0 : Nat → Prop} {w0 w : World} {Rn : Kn} {tv : Value} {n : Nat} {xs : List Value} {u : Nat → Value} {fb cnt : Nat} {left : Int} {N : Act → World → Prop} {Q0 : Exit → Act → World → Prop}
    (htv : ∃ A c, tv = .slice A n c) (hn : n ≤ 10) (hc : cnt ≤ 10) (hl : 300000 ≤ left) (hl2 : left ≤ 2000000)
    (h20 : Calls Tryz.prog 20 #[.pointer (some ⟨I.dd, 0, none⟩)] w fun e w' => ∃ a b, e = .returned (.tuple #[a, b]) ∧ b = .nilIface ∧ Calls Tryz.prog 13 #[a] w' (TokV (TsK I F0 w0 Rn tv n xs)))
    (hX : ∀ a' w' tv' left' k s1 s2 s3 V o l c, TokA I fb tv' left' (cnt + 1) a' → left - 300000 ≤ left' → left' ≤ left → TsK I F0 w0 Rn tv' (n + 1) (xs ++ tokC k s1 s2 V s3 o l c) k s1 s2 s3 V w' → N a' w') :
    Code.wp Tryz.prog tokBody (Exit.then N Q0) ⟨List.toArray (u 0 :: .bool false :: u 2 :: u 3 :: u 4 :: u 5 :: tv :: .pointer (some ⟨fb, 0, none⟩) :: u 8 :: .pointer (some ⟨I.dd, 0, none⟩) :: u 10 :: .int .i64 left :: u 12 :: u 13 :: u 14 :: u 15 :: u 16 :: u 17 :: u 18 :: u 19 :: u 20 :: u 21 :: u 22 :: u 23 :: .int .i64 (cnt : Int) :: u 25 :: u 26 :: u 27 :: u 28 :: u 29 :: u 30 :: u 31 :: u 32 :: u 33 :: u 34 :: u 35 :: u 36 :: u 37 :: u 38 :: u 39 :: u 40 :: u 41 :: u 42 :: u 43 :: u 44 :: u 45 :: u 46 :: u 47 :: u 48 :: u 49 :: u 50 :: u 51 :: u 52 :: u 53 :: u 54 :: u 55 :: u 56 :: u 57 :: u 58 :: u 59 :: u 60 :: u 61 :: []), []⟩ w := by
  obtain ⟨A6, c6, rfl⟩ := htv
  have HX := Lib.hid hX
  have H20 := Lib.hid h20
  clear hX h20
  have hc1 : (cnt : Int) < 200000 := by omega
  clear hc
  conv => arg 2; whnf
  go_wp2_with (first | (go_at_call 14; refine Hid.out ?_) | (go_at_call 13; refine HT13.out.mono ?_; rintro e w2 ⟨k, s1, s2, s3, A, c, zs, rfl, b1, b2, b3, hz, hzr, hzo, hk⟩; have HZ := Lib.hid (⟨hzr, hzo, hk⟩ : _ ∧ _ ∧ _); clear hzr hzo hk) | (go_at_call 11; refine (read_any H20.out).mono ?_; rintro e w1 ⟨a, b, rfl, rfl, h13⟩; have HT13 := Lib.hid h13; clear h13))
  refine Lib.hid ?_
  have hN := NewT.made w2 (tokB k s1 s2 (.slice A zs.length c) s3 0 0 0)
  obtain ⟨W, hW⟩ : ∃ W, W = w2.alloc (.cells (tokB k s1 s2 (.slice A zs.length c) s3 0 0 0) 35) := ⟨_, rfl⟩
  rw [← hW] at hN ⊢
  clear hW
  obtain ⟨T, hT⟩ : ∃ T, T = w2.heap.size := ⟨_, rfl⟩
  obtain ⟨x, y, z, -, -, d23⟩ := (HZ.out.2.2.below hN.below).ints
  rw [← hT] at hN ⊢
  have f5 := hN.frozen 5
  have q5 : W.cell? ⟨T, 5, none⟩ = some (.int .i64 0) := hN.cell 5
  have hlt := hN.lt
  have HN := Lib.hid hN
  clear hN HT13 H20 hT
  refine (inputOffset_ok d23).mono ?_
  rintro e W1 ⟨rfl, rfl⟩
  go_wp2_with (go_at_call 15; refine Hid.out ?_)
  refine Lib.hid ?_
  have hN2 := HN.out.set 5 (.int .i64 z)
  obtain ⟨W2, hW2⟩ : ∃ W2, W2 = W.setCell ⟨T, 5, none⟩ (.int .i64 z) := ⟨_, rfl⟩
  rw [← hW2] at hN2 ⊢
  clear hW2 q5 f5 hlt d23 HN
  obtain ⟨x2, y2, z2, e21, e22, e23⟩ := (HZ.out.2.2.below hN2.below).ints
  have HN2 := Lib.hid hN2
  clear hN2
  refine (inputPos_ok e21 e22 e23).mono ?_
  rintro e W3 ⟨p1, p2, rfl, q, hq⟩
  have hN3 : NewT w2 T (tokB k s1 s2 (.slice A zs.length c) s3 z 0 0) W3 := hq ▸ HN2.out.drewN q
  clear hq e21 e22 e23 HN2
  have f6 := hN3.frozen 6
  have f7 := hN3.frozen 7
  have q6 : W3.cell? ⟨T, 6, none⟩ = some (.int .i64 0) := hN3.cell 6
  have q7 : W3.cell? ⟨T, 7, none⟩ = some (.int .i64 0) := hN3.cell 7
  have hlt := hN3.lt
  have hN4 := (hN3.set 6 (.int .i64 p1)).set 7 (.int .i64 p2)
  have HN4 := Lib.hid hN4
  clear hN3 hN4
  go_upto_region 13 with fail
  have hN4 : NewT w2 T (tokB k s1 s2 (.slice A zs.length c) s3 z p1 p2) ((W3.setCell ⟨T, 6, none⟩ (.int .i64 p1)).setCell ⟨T, 7, none⟩ (.int .i64 p2)) := HN4.out
  obtain ⟨W4, hW4⟩ : ∃ W4, W4 = (W3.setCell ⟨T, 6, none⟩ (.int .i64 p1)).setCell ⟨T, 7, none⟩ (.int .i64 p2) := ⟨_, rfl⟩
  rw [← hW4] at hN4 ⊢
  clear hW4 q6 q7 f6 f7 hlt HN4
  have x0 : W4.cell? ⟨T, 0, none⟩ = some (.int .i64 k) := hN4.cell 0
  have x1 : W4.cell? ⟨T, 1, none⟩ = some (.string s1) := hN4.cell 1
  have x2 : W4.cell? ⟨T, 2, none⟩ = some (.string s2) := hN4.cell 2
  have x3 : W4.cell? ⟨T, 3, none⟩ = some (.slice A zs.length c) := hN4.cell 3
  have x4 : W4.cell? ⟨T, 4, none⟩ = some (.string s3) := hN4.cell 4
  have x5 : W4.cell? ⟨T, 5, none⟩ = some (.int .i64 z) := hN4.cell 5
  have x6 : W4.cell? ⟨T, 6, none⟩ = some (.int .i64 p1) := hN4.cell 6
  have x7 : W4.cell? ⟨T, 7, none⟩ = some (.int .i64 p2) := hN4.cell 7
  have hso : zs = [] ∨ ∃ b e, W4.ownsRow b e 3 (.slice A zs.length c) zs.length (zs.flatMap atC) := HZ.out.2.1.imp id fun ⟨b, e, h⟩ => ⟨b, e, own_below h hN4.below⟩
  have HSZ := Lib.hid (size_ok (k := k) (o := z) (l := p1) (q := p2) hso hz HZ.out.1 b1 b2 b3)
  have HN4 := Lib.hid hN4
  clear hN4 hso
  go_wp2_with (go_at_call 16; refine HSZ.out.mono ?_; rintro e W5 ⟨x, rfl, hx0, hx1, hb5⟩; have hN5 := HN4.out.later hb5; have HN5 := Lib.hid hN5; clear hb5 hN5; refine Hid.out ?_)
  refine Lib.hid ?_
  have hx2 : 0 ≤ left - x := by omega
  have hx3 : left - 300000 ≤ left - x := by omega
  have hx5 : left - x ≤ left := by omega
  have hwr : IntKind.i64.wrap (left - x) = left - x := by rw [IntKind.wrap_i64]; omega
  have hx4 : ¬ left - x < 0 := by omega
  have HXX := Lib.hid (⟨hx3, hx5⟩ : _ ∧ _)
  clear hl hl2 hx0 hx1 hx2 hx3 hx5
  have hN5 := HN5.out
  have y0 : W5.cell? ⟨T, 0, none⟩ = some (.int .i64 k) := hN5.cell 0
  have y1 : W5.cell? ⟨T, 1, none⟩ = some (.string s1) := hN5.cell 1
  have y2 : W5.cell? ⟨T, 2, none⟩ = some (.string s2) := hN5.cell 2
  have y3 : W5.cell? ⟨T, 3, none⟩ = some (.slice A zs.length c) := hN5.cell 3
  have y4 : W5.cell? ⟨T, 4, none⟩ = some (.string s3) := hN5.cell 4
  have y5 : W5.cell? ⟨T, 5, none⟩ = some (.int .i64 z) := hN5.cell 5
  have y6 : W5.cell? ⟨T, 6, none⟩ = some (.int .i64 p1) := hN5.cell 6
  have y7 : W5.cell? ⟨T, 7, none⟩ = some (.int .i64 p2) := hN5.cell 7
  clear hN5 x0 x1 x2 x3 x4 x5 x6 x7
  go_wp2_with (at_builtin; refine Hid.out ?_)
  refine Lib.hid ?_
  have hk6 : TsK I F0 w0 Rn (.slice A6 n c6) n xs k s1 s2 s3 (.slice A zs.length c) (W5.alloc (.cells (tokB k s1 s2 (.slice A zs.length c) s3 z p1 p2) 35)) := HZ.out.2.2.below (HN5.out.below.trans ((Below.alloc1 _ _).mono HN5.out.below.size))
  obtain ⟨hown6, hs6⟩ := hk6.own
  have hnw := heap_alloc_new W5 (.cells (tokB k s1 s2 (.slice A zs.length c) s3 z p1 p2) 35)
  obtain ⟨i0, hii, hz0, hz1, hz2⟩ := info_parts info35
  refine wpList_append_lies _ rfl (.tmp 56) (.tmp 58) 25 rfl w0.heap.size 35 i0 _ 8 104 Tryz.underlying25 hii hz0 hz1 hz2 rfl (by decide) (.slice A6 n c6) n xs rfl hown6 ⟨W5.heap.size, 0, none⟩ 1 1 (tokC k s1 s2 (.slice A zs.length c) s3 z p1 p2) rfl rfl (World.news_of_block hnw) (by simp [Value.oneCell']) (by decide) (by unfold maxLen; omega) (by omega) hs6 _ rfl ?_
  intro g9 cap9 w9 hown9 hg9 hat hlt9
  have hk9 : TsK I F0 w0 Rn (.slice (some ⟨g9, 0, none⟩) (n + 1) cap9) (n + 1) (xs ++ tokC k s1 s2 (.slice A zs.length c) s3 z p1 p2) k s1 s2 s3 (.slice A zs.length c) w9 := hk6.grow hg9 hown9 rfl hat
  have HK9 := Lib.hid hk9
  clear hk6 hk9 hown6 hs6 hnw hown9 hg9 hat hlt9 HZ HN5 HSZ HN4 y0 y1 y2 y3 y4 y5 y6 y7
  go_wp2
  exact HX.out _ _ _ _ k s1 s2 s3 _ z p1 p2 ⟨rfl, rfl, rfl, rfl, rfl, rfl, rfl, by simp⟩ HXX.out.1 HXX.out.2 HK9.out

end Go.Proofs.YthhmnnojgjpibaaGreatDoor
namespace Go.Proofs.YthhmnnojgjpibaaGreatDoor
open Go Go.RowKit Go.Lib

attribute [local go_sem ↓] Go.wp_at_zero Go.wp_at_succ
/-- A fault's cells: none; io.EOF. -/
abbrev noF : Array Value := #[.int .i64 0, .int .i64 0, .string ⟨#[]⟩, .string ⟨#[]⟩, .string ⟨#[]⟩, .string ⟨#[]⟩, .string ⟨#[]⟩, .string ⟨#[]⟩, .string ⟨#[]⟩]
abbrev eofF : Array Value := #[.int .i64 2, .int .i64 0, .string ⟨#[]⟩, .string ⟨#[]⟩, .string ⟨#[]⟩, .string ⟨#[]⟩, .string ⟨#[]⟩, .string ⟨#[]⟩, .string ⟨#[]⟩]
/-- The rows, and the fault's block, whatever else. -/
structure TE (B0 : Nat) (w0 : World) (tv : Value) (n : Nat) (xs : List Value) (av : Value) (ats : List At) (fb : Nat) (fc : Array Value) (w : World) : Prop where
  low : Below B0 w0 w
  row : w.ownsRow w0.heap.size 35 8 tv n xs
  arow : w.ownsRow w0.heap.size 37 3 av ats.length (ats.flatMap atC)
  fb : w.heap[fb]? = some (.cells fc 27 (0, 0))
section
variable {B0 : Nat} {w0 w w' : World} {tv : Value} {n : Nat} {xs : List Value} {av : Value} {ats : List At} {fb : Nat} {fc : Array Value}
theorem heap_lt {w : World} {k : Nat} {o : Obj} (h : w.heap[k]? = some o) : k < w.heap.size := by
  rcases Nat.lt_or_ge k w.heap.size with h1 | h1
  · exact h1
  · rw [Array.getElem?_eq_none h1] at h; cases h
theorem TE.below (h : TE B0 w0 tv n xs av ats fb fc w) (hB : B0 ≤ w.heap.size) (hb : Below w.heap.size w w') : TE B0 w0 tv n xs av ats fb fc w' :=
  ⟨h.low.trans (hb.mono hB), own_below h.row hb, own_below h.arow hb, (hb.block _ (heap_lt h.fb)).trans h.fb⟩
theorem TE.set (h : TE B0 w0 tv n xs av ats fb fc w) (hB : B0 ≤ fb) (i : Nat) (v : Value) : TE B0 w0 tv n xs av ats fb (fc.setIfInBounds i v) (w.setCell ⟨fb, i, none⟩ v) := by
  have o1 : ∀ g, tv.ownBlock = some g → g ≠ fb := (show Row w noB w0.heap.size 35 8 tv n xs from ⟨h.row, fun _ _ e => e⟩).other h.fb (by decide)
  have o2 : ∀ g, av.ownBlock = some g → g ≠ fb := (show Row w noB w0.heap.size 37 3 av _ _ from ⟨h.arow, fun _ _ e => e⟩).other h.fb (by decide)
  exact ⟨h.low.set1 hB i v, ownG_kept h.row fun g he => Below.heap_setCell _ _ _ g (o1 g he), ownG_kept h.arow fun g he => Below.heap_setCell _ _ _ g (o2 g he), heap_setCell_same w fb i fc 27 v h.fb⟩
end
theorem TS.te {I : Ids} {F0 Fp : Nat → Prop} {w0 w w' : World} {B : Nat → Option Value} {rest bs : List UInt8} {fr : Bool} {tv : Value} {n : Nat} {xs : List Value} {av : Value} {ats : List At} {ks : List (Nat × Obj)} {fb B0 : Nat} {fc : Array Value} (h : TS I F0 w0 B rest Fp bs fr tv n xs av ats ks w) (hk : (fb, Obj.cells fc 27 (0, 0)) ∈ ks) (he : Ext Fp w w') (hF : ∀ k, F0 k → B0 ≤ k) (hz : B0 ≤ w0.heap.size) : TE B0 w0 tv n xs av ats fb fc w' :=
  have hs : Stp Fp Fp w w' := Stp.of he
  ⟨(h.st.trans hs).low hF hz, (h.row.step hs).1, (h.arow.step hs).1, ((h.kp _ hk).step hs).2⟩
/-- The frame behind the last round. -/
def TokE (fb : Nat) (tv : Value) (a : Act) : Prop := a.defers = [] ∧ a.tmps.size = 62 ∧ a.tmps.getD 6 undef = tv ∧ a.tmps.getD 7 undef = .pointer (some ⟨fb, 0, none⟩) ∧ a.tmps.getD 8 undef = .bool false
set_option maxHeartbeats 16000000 in
set_option maxRecDepth 1000000 in
theorem tok_eof {I : Ids} {B0 : Nat} {w0 w : World} {tv : Value} {n : Nat} {xs : List Value} {av : Value} {ats : List At} {u : Nat → Value} {fb cnt : Nat} {left : Int} {ev : Value} {N : Act → World → Prop} {Q0 : Exit → Act → World → Prop}
    (htv : ∃ A c, tv = .slice A n c) (hc : cnt ≤ 10) (hB : B0 ≤ fb) (hBz : B0 ≤ w.heap.size)
    (h20 : Calls Tryz.prog 20 #[.pointer (some ⟨I.dd, 0, none⟩)] w fun e w' => e = .returned (.tuple #[.nilIface, ev]) ∧ EofV ev w' ∧ w.heap.size ≤ w'.heap.size ∧ TE B0 w0 tv n xs av ats fb noF w')
    (hX : ∀ a' w', TokE fb tv a' → TE B0 w0 tv n xs av ats fb eofF w' → Q0 .ret a' w') :
    Code.wp Tryz.prog tokBody (Exit.then N Q0) ⟨List.toArray (u 0 :: .bool false :: u 2 :: u 3 :: u 4 :: u 5 :: tv :: .pointer (some ⟨fb, 0, none⟩) :: u 8 :: .pointer (some ⟨I.dd, 0, none⟩) :: u 10 :: .int .i64 left :: u 12 :: u 13 :: u 14 :: u 15 :: u 16 :: u 17 :: u 18 :: u 19 :: u 20 :: u 21 :: u 22 :: u 23 :: .int .i64 (cnt : Int) :: u 25 :: u 26 :: u 27 :: u 28 :: u 29 :: u 30 :: u 31 :: u 32 :: u 33 :: u 34 :: u 35 :: u 36 :: u 37 :: u 38 :: u 39 :: u 40 :: u 41 :: u 42 :: u 43 :: u 44 :: u 45 :: u 46 :: u 47 :: u 48 :: u 49 :: u 50 :: u 51 :: u 52 :: u 53 :: u 54 :: u 55 :: u 56 :: u 57 :: u 58 :: u 59 :: u 60 :: u 61 :: []), []⟩ w := by
  obtain ⟨A6, c6, rfl⟩ := htv
  have HX := Lib.hid hX
  have h20' : Calls Tryz.prog 20 #[.pointer (some ⟨I.dd, 0, none⟩)] w fun e w' => ∃ a b, e = .returned (.tuple #[a, b]) ∧ a = .nilIface ∧ (∃ ad : Addr, b = .iface 177 (.pointer (some ad))) ∧ EofV b w' ∧ w.heap.size ≤ w'.heap.size ∧ TE B0 w0 (.slice A6 n c6) n xs av ats fb noF w' :=
    h20.mono fun e w' ⟨h1, h2, h3, h4⟩ => ⟨_, _, h1, rfl, h2.2, h2, h3, h4⟩
  have H20 := Lib.hid h20'
  clear hX h20 h20'
  have hc1 : (cnt : Int) < 200000 := by omega
  clear hc
  conv => arg 2; whnf
  go_wp2_with (first | (go_at_call 12; refine (fault_eof HV.out).mono ?_; rintro e w2 ⟨rfl, hb2⟩; have hT2 := HT.out.below (Nat.le_trans hBz hsz) hb2; have HT2 := Lib.hid hT2; clear hb2 hT2; refine Hid.out ?_) | (go_at_call 11; refine (read_any H20.out).mono ?_; rintro e w1 ⟨a, b, rfl, rfl, ⟨ad, rfl⟩, hv, hsz, hT⟩; have HV := Lib.hid hv; have HT := Lib.hid hT; clear hv hT))
  refine Lib.hid ?_
  have hb := HT2.out.fb
  have c0 : w2.cell? ⟨fb, 0, none⟩ = some (.int .i64 0) := Lib.cell_of_heap hb 0
  have c1 : w2.cell? ⟨fb, 1, none⟩ = some (.int .i64 0) := Lib.cell_of_heap hb 1
  have c2 : w2.cell? ⟨fb, 2, none⟩ = some (.string ⟨#[]⟩) := Lib.cell_of_heap hb 2
  have c3 : w2.cell? ⟨fb, 3, none⟩ = some (.string ⟨#[]⟩) := Lib.cell_of_heap hb 3
  have c4 : w2.cell? ⟨fb, 4, none⟩ = some (.string ⟨#[]⟩) := Lib.cell_of_heap hb 4
  have c5 : w2.cell? ⟨fb, 5, none⟩ = some (.string ⟨#[]⟩) := Lib.cell_of_heap hb 5
  have c6' : w2.cell? ⟨fb, 6, none⟩ = some (.string ⟨#[]⟩) := Lib.cell_of_heap hb 6
  have c7 : w2.cell? ⟨fb, 7, none⟩ = some (.string ⟨#[]⟩) := Lib.cell_of_heap hb 7
  have c8 : w2.cell? ⟨fb, 8, none⟩ = some (.string ⟨#[]⟩) := Lib.cell_of_heap hb 8
  have f : ∀ i, w2.frozen? ⟨fb, i, none⟩ = false := fun i => Lib.frozen_of_heap hb i
  have hlt := heap_lt hb
  clear hb
  have hfin := ((((((((HT2.out.set hB 0 (.int .i64 2)).set hB 1 (.int .i64 0)).set hB 2 (.string ⟨#[]⟩)).set hB 3 (.string ⟨#[]⟩)).set hB 4 (.string ⟨#[]⟩)).set hB 5 (.string ⟨#[]⟩)).set hB 6 (.string ⟨#[]⟩)).set hB 7 (.string ⟨#[]⟩)).set hB 8 (.string ⟨#[]⟩)
  have HFIN := Lib.hid hfin
  clear hfin
  go_wp2
  exact HX.out _ _ ⟨rfl, rfl, rfl, rfl, rfl⟩ HFIN.out

end Go.Proofs.YthhmnnojgjpibaaGreatDoor
namespace Go.Proofs.YthhmnnojgjpibaaGreatDoor
open Go Go.RowKit Go.Lib

/-- The decoder with an element on its stack. -/
abbrev pushB (B : Nat → Option Value) (s : Nat) : Nat → Option Value := upd (upd B 12 (.int .i64 1)) 11 (.pointer (some ⟨s, 0, none⟩))
section
variable {I : Ids} {F0 Fp Fp' : Nat → Prop} {w0 w w' : World} {B B' : Nat → Option Value} {rest rest' bs bs' : List UInt8} {fr fr' : Bool} {tv : Value} {n : Nat} {xs : List Value} {av : Value} {ats : List At} {ks ks' : List (Nat × Obj)}
theorem TS.add (h : TS I F0 w0 B rest Fp bs fr (.slice none 0 0) n xs av ats ks w) {k : Nat} {o : Obj} (hk : Kp w Fp k o) : TS I F0 w0 B rest Fp bs fr (.slice none 0 0) n xs av ats (ks ++ [(k, o)]) w := by
  refine ⟨h.ds, h.st, h.row, h.arow, fun p hp => ?_, fun p _ g hg => by cases hg⟩
  rcases List.mem_append.1 hp with hp | hp
  · exact h.kp p hp
  · obtain rfl : p = (k, o) := by simpa using hp
    exact hk
/-- The element is taken off the stack. -/
theorem TS.close (h : TS I F0 w0 B rest Fp bs fr tv n xs av ats ks w) {s : Nat} (hks : (s, stkO) ∈ ks) (hs0 : w0.heap.size ≤ s) (hd : DS I Fp' B' bs' rest' fr' w') (hs : Stp (fun k => Fp k ∨ k = s) Fp' w w') (hk : ∀ p ∈ ks', p ∈ ks ∧ p.1 ≠ s) :
    TS I F0 w0 B' rest' Fp' bs' fr' tv n xs av ats ks' w' := by
  have hr : Row w (fun k => Fp k ∨ k = s) w0.heap.size 35 8 tv n xs := ⟨h.row.1, fun g hg e => e.elim (h.row.2 g hg) (h.kn _ hks g hg)⟩
  have ha : Row w (fun k => Fp k ∨ k = s) w0.heap.size 37 3 av ats.length (ats.flatMap atC) := ⟨h.arow.1, fun g hg e => e.elim (h.arow.2 g hg) (h.arow.other (h.kp _ hks).2 (by decide) g hg)⟩
  refine ⟨hd, ⟨⟨hs.1.os.trans h.st.1.os, hs.1.tape.trans h.st.1.tape, hs.1.output.trans h.st.1.output, Nat.le_trans h.st.1.size hs.1.size, fun k hk hn => ?_⟩, fun k hk => ?_⟩, hr.step hs, ha.step hs, fun p hp => ?_, fun p hp => h.kn p (hk p hp).1⟩
  · refine (hs.1.block k (Nat.lt_of_lt_of_le hk h.st.1.size) ?_).trans (h.st.1.block k hk hn)
    rintro (e | e)
    · rcases h.st.2 k e with e | e
      · exact hn e
      · omega
    · omega
  · rcases hs.2 k hk with (e | e) | e
    · exact h.st.2 k e
    · exact .inr (e ▸ hs0)
    · exact .inr (Nat.le_trans h.st.1.size e)
  · exact (show Kp w (fun k => Fp k ∨ k = s) p.1 p.2 from ⟨fun e => e.elim (h.kp p (hk p hp).1).1 (hk p hp).2, (h.kp p (hk p hp).1).2⟩).step hs
end
/-- The tokens of the document. -/
abbrev tok1 (av : Value) (o l c : Int) : List Value := tokC 1 ⟨#[]⟩ ⟨#[97]⟩ av ⟨#[]⟩ o l c
abbrev tok2 (v : List UInt8) (o l c : Int) : List Value := tokC 3 ⟨#[]⟩ ⟨#[]⟩ (.slice none 0 0) ⟨v.toArray⟩ o l c
abbrev tok3 (o l c : Int) : List Value := tokC 2 ⟨#[]⟩ ⟨#[97]⟩ (.slice none 0 0) ⟨#[]⟩ o l c
section
variable {I : Ids} {F0 Fp : Nat → Prop} {w0 w : World} {B : Nat → Option Value} {rest bs v : List UInt8} {fr : Bool} {tv : Value} {n : Nat} {xs : List Value} {av : Value} {ats : List At} {fb m clock s B0 : Nat} {ev : Value}
/-- The start tag. -/
def K1 (w0 : World) (B : Nat → Option Value) (r : List UInt8) (ats : List At) (fb m clock : Nat) : Kn := fun k s1 s2 s3 V B' rest _ _ fr av ats' ks => k = 1 ∧ s1 = ⟨#[]⟩ ∧ s2 = ⟨#[97]⟩ ∧ s3 = ⟨#[]⟩ ∧ V = av ∧ rest = r ∧ fr = true ∧ ats' = ats ∧ ∃ s, w0.heap.size ≤ s ∧ B' = pushB B s ∧ ks = [(fb, Obj.cells noF 27 (0, 0)), (m, .map #[] clock), (s, stkO)]
theorem rd_start (hI : IdOk I) (hB : BOk I B) (h11 : B 11 = some (.pointer none)) (h12 : B 12 = some (.int .i64 0)) (h13 : B 13 = some (.pointer none)) (h19 : B 19 = some (.map (some m))) (hA : ∀ a ∈ ats, AtR a) (hl : ats.length ≤ 100) (hF : ∀ k, F0 k → B0 ≤ k) (hz : B0 ≤ w0.heap.size) (hT : U8 B0 w0) {r : List UInt8}
    (hS : TS I F0 w0 B (60 :: 97 :: (ats.flatMap atB ++ 62 :: r)) Fp bs fr (.slice none 0 0) 0 [] (.slice none 0 0) [] [(fb, .cells noF 27 (0, 0)), (m, .map #[] clock)] w) :
    Calls Tryz.prog 20 #[.pointer (some ⟨I.dd, 0, none⟩)] w fun e w' => ∃ a b, e = .returned (.tuple #[a, b]) ∧ b = .nilIface ∧ Calls Tryz.prog 13 #[a] w' (TokV (TsK I F0 w0 (K1 w0 B r ats fb m clock) (.slice none 0 0) 0 [])) := by
  refine (token_start hI hB hA hl hS.ds (hS.st.lowF hF hz) (Nat.le_trans hz hS.st.1.size) (hT.low hS.st hF hz) h11 h12 h13 h19 (hS.kp (m, .map #[] clock) (by simp))).mono ?_
  rintro e w1 ⟨v1, s, rfl, hs, Fp1, bs1, hd1, hs1, hk1, hm1, hr1⟩
  refine ⟨_, _, rfl, rfl, (token_start_ok hr1 hl hA).mono ?_⟩
  rintro e w2 ⟨v2, rfl, ho2, hb2⟩
  obtain ⟨A, c, rfl⟩ := (show Row w2 noB w1.heap.size 37 3 v2 _ _ from ⟨ho2, fun _ _ e => e⟩).form
  exact ⟨1, _, _, _, A, c, ats, rfl, by decide, by decide, by decide, hl, hA, .inr ⟨_, _, ho2⟩, _, _, _, _, _, _, _, _, ⟨rfl, rfl, rfl, rfl, rfl, rfl, rfl, rfl, s, Nat.le_trans hS.st.1.size hs, rfl, rfl⟩, ((hS.step hd1 hs1).add hk1).attrs hb2 ho2⟩
/-- The text. -/
def K2 (B : Nat → Option Value) (s : Nat) (v r : List UInt8) (av : Value) (ats : List At) (ks : List (Nat × Obj)) : Kn := fun k s1 s2 s3 V B' rest _ _ _ av' ats' ks' => k = 3 ∧ s1 = ⟨#[]⟩ ∧ s2 = ⟨#[]⟩ ∧ s3 = ⟨v.toArray⟩ ∧ V = .slice none 0 0 ∧ rest = 60 :: r ∧ av' = av ∧ ats' = ats ∧ B' = pushB B s ∧ ks' = ks
theorem rd_text (hI : IdOk I) (hB : BOk I B) (hv : v.length ≤ 1000) (hg : Good v) (hne : v ≠ []) (hF : ∀ k, F0 k → B0 ≤ k) (hz : B0 ≤ w0.heap.size) (hT : U8 B0 w0) {r : List UInt8} {ks : List (Nat × Obj)} (hks : (s, stkO) ∈ ks)
    (hS : TS I F0 w0 (pushB B s) (esc v ++ 60 :: r) Fp bs fr tv n xs av ats ks w) :
    Calls Tryz.prog 20 #[.pointer (some ⟨I.dd, 0, none⟩)] w fun e w' => ∃ a b, e = .returned (.tuple #[a, b]) ∧ b = .nilIface ∧ Calls Tryz.prog 13 #[a] w' (TokV (TsK I F0 w0 (K2 B s v r av ats ks) tv n xs)) := by
  refine (token_text hI ((hB.upd (.inr (.inl rfl)) _).upd (.inl rfl) _) hS.ds hv hg hne (hS.st.lowF hF hz) (Nat.le_trans hz hS.st.1.size) (hT.low hS.st hF hz) (upd_same _ _ _) (hS.kp _ hks)).mono ?_
  rintro e w1 ⟨g, c, rfl, hr, Fp1, hd1, hs1⟩
  refine ⟨_, _, rfl, rfl, (token_text_ok hr).mono ?_⟩
  rintro e w2 ⟨rfl, hb2⟩
  exact ⟨3, _, _, _, none, 0, [], rfl, by decide, by decide, by show v.toArray.size ≤ 1000; simpa using hv, by decide, by simp, .inl rfl, _, _, _, _, _, _, _, _, ⟨rfl, rfl, rfl, rfl, rfl, rfl, rfl, rfl, rfl, rfl⟩, (hS.step hd1 hs1).below hb2⟩
/-- The end tag. -/
def K3 (B : Nat → Option Value) (s : Nat) (av : Value) (ats : List At) (fb : Nat) : Kn := fun k s1 s2 s3 V B' rest _ _ fr av' ats' ks' => k = 2 ∧ s1 = ⟨#[]⟩ ∧ s2 = ⟨#[97]⟩ ∧ s3 = ⟨#[]⟩ ∧ V = .slice none 0 0 ∧ rest = [] ∧ fr = true ∧ av' = av ∧ ats' = ats ∧ B' = popB (pushB B s) s ∧ ks' = [(fb, Obj.cells noF 27 (0, 0))]
theorem rd_close (hI : IdOk I) (hB : BOk I B) (h13 : B 13 = some (.pointer none)) (h19 : B 19 = some (.map (some m))) (hs0 : w0.heap.size ≤ s)
    (hS : TS I F0 w0 (pushB B s) (60 :: 47 :: 97 :: 62 :: []) Fp bs fr tv n xs av ats [(fb, Obj.cells noF 27 (0, 0)), (m, .map #[] clock), (s, stkO)] w) :
    Calls Tryz.prog 20 #[.pointer (some ⟨I.dd, 0, none⟩)] w fun e w' => ∃ a b, e = .returned (.tuple #[a, b]) ∧ b = .nilIface ∧ Calls Tryz.prog 13 #[a] w' (TokV (TsK I F0 w0 (K3 B s av ats fb) tv n xs)) := by
  have hk := hS.kp (s, stkO) (by simp)
  have hf := hS.kp (fb, Obj.cells noF 27 (0, 0)) (by simp)
  have hfs : fb ≠ s := by
    rintro rfl
    have := hk.2.symm.trans hf.2
    simp at this
  refine (token_close (F0 := fun k => Fp k ∨ k = s) (w0 := w) hI ((hB.upd (.inr (.inl rfl)) _).upd (.inl rfl) _) hS.ds ⟨Ext.refl _ _, fun k e => .inl (.inl e)⟩ (.inl (.inr rfl)) (upd_same _ _ _) ((upd_other _ _ (by decide)).trans (upd_same _ _ _)) ((upd_other _ _ (by decide)).trans ((upd_other _ _ (by decide)).trans h13)) ((upd_other _ _ (by decide)).trans ((upd_other _ _ (by decide)).trans h19)) hk (hS.kp (m, .map #[] clock) (by simp))).mono ?_
  rintro e w1 ⟨rfl, Fp1, bs1, hd1, hs1⟩
  refine ⟨_, _, rfl, rfl, token_end_ok.mono ?_⟩
  rintro e w2 ⟨rfl, hb2⟩
  refine ⟨2, _, _, _, none, 0, [], rfl, by decide, by decide, by decide, by decide, by simp, .inl rfl, _, _, _, _, _, _, _, [(fb, Obj.cells noF 27 (0, 0))], ⟨rfl, rfl, rfl, rfl, rfl, rfl, rfl, rfl, rfl, rfl, rfl⟩, (hS.close (by simp) hs0 hd1 hs1 fun p hp => ?_).below hb2⟩
  obtain rfl : p = (fb, Obj.cells noF 27 (0, 0)) := by simpa using hp
  exact ⟨by simp, hfs⟩
/-- The end. -/
theorem rd_eof (hI : IdOk I) (hB : BOk I B) (hBp : 0 < B0) (hF : ∀ k, F0 k → B0 ≤ k) (hz : B0 ≤ w0.heap.size) (hev : EofV ev w0) (hS : TS I F0 w0 (popB (pushB B s) s) [] Fp bs true tv n xs av ats [(fb, Obj.cells noF 27 (0, 0))] w) :
    Calls Tryz.prog 20 #[.pointer (some ⟨I.dd, 0, none⟩)] w fun e w' => e = .returned (.tuple #[.nilIface, ev]) ∧ EofV ev w' ∧ w.heap.size ≤ w'.heap.size ∧ TE B0 w0 tv n xs av ats fb noF w' := by
  have hd0 : ¬ Fp 0 := fun e => by have := hS.st.lowF hF hz 0 e; omega
  have hev1 : EofV ev w := hev.keep ((hS.st.low hF hz).block 0 hBp)
  have h0 : 0 < w.heap.size := Nat.lt_of_lt_of_le hBp (Nat.le_trans hz hS.st.1.size)
  obtain ⟨nb, line, lst, off, hD⟩ := hS.ds
  refine (token_eof hI (((((hB.upd (.inr (.inl rfl)) _).upd (.inl rfl) _).upd (.inr (.inl rfl)) _).upd (.inl rfl) _).upd (.inr (.inr rfl)) _) hev1 hd0 hD ((upd_other _ _ (by decide)).trans (upd_same _ _ _))).mono ?_
  rintro e w' ⟨rfl, _, hE⟩
  exact ⟨rfl, hev1.keep (hE.block 0 h0 hd0), hE.size, hS.te (by simp) hE hF hz⟩
end

end Go.Proofs.YthhmnnojgjpibaaGreatDoor
