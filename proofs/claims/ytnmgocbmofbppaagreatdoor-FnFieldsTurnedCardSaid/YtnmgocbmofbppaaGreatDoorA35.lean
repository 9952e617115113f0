/- theFields: Fields, of copies. Plain: the two roads of FnFieldsInner say the same. Plain: the probe of sees. sees, over what typeOf says of its probe. of and typeOf at the probe of sees; sees. FnFieldsTurned: the turned list of fields; the state of the loop that makes it; the loops' texts. -/
import Derived.Test.YtnmgocbmofbppaaGreatDoorA25
import Derived.Test.YtnmgocbmofbppaaGreatDoorA34
import Derived.Test.YtnmgocbmofbppaaGreatDoorA18
import Derived.Test.YtnmgocbmofbppaaGreatDoorA19
import Derived.Test.YtnmgocbmofbppaaGreatDoorA29
import Derived.Test.YtnmgocbmofbppaaGreatDoorA13
import Derived.Test.YtnmgocbmofbppaaGreatDoorA12
import Derived.Test.YtnmgocbmofbppaaGreatDoorA20
import Derived.Test.YtnmgocbmofbppaaGreatDoorA21
import Derived.Test.YtnmgocbmofbppaaGreatDoorA30

set_option linter.unusedVariables false
set_option linter.unusedSimpArgs false

namespace Go.Proofs.YtnmgocbmofbppaaGreatDoor
open Go.RowKit

theorem Uni.up {U : Lib.RTab} {B B' : Nat} {w : World} (h : Uni U B w) (hb : B ≤ B') : Uni U B' w := by
  obtain ⟨L, D, h1, h2, h3, h4⟩ := h
  exact ⟨L, D, h1, h2, h3, fun w'' k => h4 w'' (k.mono hb)⟩
theorem Tabs.up {B B' : Nat} {w : World} (h : Tabs B w) (hb : B ≤ B') : Tabs B' w := by
  obtain ⟨T, h⟩ := h
  exact ⟨T, fun w'' k => h w'' (k.mono hb)⟩
theorem EofC.up {B B' : Nat} {w : World} (h : EofC B w) (hb : B ≤ B') : EofC B' w := by
  obtain ⟨a, ca, ta, h1, h2, h3, h4⟩ := h
  exact ⟨a, ca, ta, by omega, by omega, h3, h4⟩
theorem RowsI.keepBox {w w' : World} {A : Option Addr} {fs : List Fx} {X : Nat} (h : RowsI w A fs) (hq : ∀ x ∈ fs, HeadQ x.fi) (hX : w.heap[X]? = some (.cells zInf 37)) (hb : ∀ b, b < w.heap.size → b ≠ X → w'.heap[b]? = w.heap[b]?) : RowsI w' A fs := by
  intro i x hx
  obtain ⟨g, vs, h1, h2, h3⟩ := h i x hx
  have h0 : w.cell? ⟨X, 0, none⟩ = some (.string ⟨#[]⟩) := (cells6 hX).1
  refine ⟨g, vs, h1, h2.keepBox (hq x (List.mem_of_getElem? hx)) h0 hb, fun k u e => ?_⟩
  have hg : g ≠ X := by
    rintro rfl
    obtain ⟨pv, iv, rfl, _, ⟨ib, ic, rfl, _⟩, _⟩ := h2
    have h5 := h3 5 _ rfl
    simp only [World.cell?, hX] at h5
    rcases Nat.eq_zero_or_pos i with hi | hi
    · subst hi
      simp at h5
    · have : (zInf)[i * 6 + 5]? = none := Array.getElem?_eq_none (by show 6 ≤ _; omega)
      simp [this] at h5
  exact (World.cell?_of_block (hb g (lt_cell (h3 k u e)) hg)).trans (h3 k u e)
/-- The form of Fields' ending. -/
def FieForm (e : Ending) : Prop := ∃ (A : Option Addr) (n cap : Nat) (a b : ByteArray) (A' : Option Addr) (n' c' : Nat) (m' : Int) (o' : Bool) (I' : Option Addr) (k' d' : Nat) (has : Bool) (fc ln : Int) (m t s f1 t1 f2 t2 : ByteArray) (ok bad : Bool),
  e = .returned (.tuple #[.slice A n cap, .agg #[.string a, .string b, .slice A' n' c', .int .i64 m', .bool o', .slice I' k' d'], .bool has, .agg #[.int .i64 fc, .int .i64 ln, .string m, .string t, .string s, .string f1, .string t1, .string f2, .string t2], .bool ok, .bool bad])
theorem FiePost.form {tg : ByteArray → ByteArray} {U : Lib.RTab} {c : Prop} {w : World} {l : AL Ty} {T : Ty} {e : Ending} {w' : World} (h : FiePost tg U c w l T e w') : FieForm e := by
  rcases h.res with ⟨h1, _⟩ | ⟨n, d, _, _, _, _, _, h1, h2⟩
  · exact ⟨_, _, _, _, _, _, _, _, _, _, _, _, _, _, _, _, _, _, _, _, _, _, _, _, _, h1⟩
  · cases hg : gti tg (exOf U) l n (fsOf l T) with
    | error b =>
      obtain ⟨ln, m, t, s, f1, t1, f2, t2, h3⟩ := h1 b hg
      exact ⟨_, _, _, _, _, _, _, _, _, _, _, _, _, _, _, _, _, _, _, _, _, _, _, _, _, h3⟩
    | ok t =>
      obtain ⟨A, cap, nvs, h3, _, ⟨a, b, A', n', c', m', o', I', k', d', hl⟩, _⟩ := h2 t hg
      obtain rfl := arr_of hl
      exact ⟨_, _, _, _, _, _, _, _, _, _, _, _, _, _, _, _, _, _, _, _, _, _, _, _, _, h3⟩
/-- Handed on: only the box X has turned, which was a zero Info. -/
theorem FiePost.keepBox {tg : ByteArray → ByteArray} {U : Lib.RTab} {c : Prop} {w0 w : World} {l : AL Ty} {T : Ty} {e : Ending} {w' w9 : World} {X : Nat} (h : FiePost tg U c w l T e w') (hX : w'.heap[X]? = some (.cells zInf 37))
    (hb : (∃ A n cap nvs has, e = .returned (.tuple #[.slice A n cap, .agg nvs, .bool has, .agg zFau, .bool true, .bool false])) → ∀ b, b < w'.heap.size → b ≠ X → w9.heap[b]? = w'.heap[b]?) (hx : Ext (fun _ => False) w0 w9) : FiePost tg U c w0 l T e w9 := by
  refine ⟨hx, ?_⟩
  rcases h.res with h1 | ⟨n, d, q1, q2, q3, q4, q5, h1, h2⟩
  · exact .inl h1
  · refine .inr ⟨n, d, q1, q2, q3, q4, q5, h1, fun t ht => ?_⟩
    obtain ⟨A, cap, nvs, h3, h4, h5, h6⟩ := h2 t ht
    have hq : TiAll HeadQ t := gti_all (fun s hs => sfiAll_head fun f hf => ((q3 s hs).1 f hf).1) (sfiAll_head fun f hf => (q4 f hf).1) ht
    have h0 : w'.cell? ⟨X, 0, none⟩ = some (.string ⟨#[]⟩) := (cells6 hX).1
    have hk := hb ⟨_, _, _, _, _, h3⟩
    exact ⟨A, cap, nvs, h3, h4.keepBox hq.1 hX hk, h5, fun x hx => (h6 x hx).keepBox (hq.2 x hx) h0 hk⟩
theorem res9 {W : World} {X Y : Nat} {b0 b1 b2 b3 b4 b5 c0 c1 c2 c3 c4 c5 c6 c7 c8 : Value} (tmps : Array Value) (hX : W.heap[X]? = some (.cells #[b0, b1, b2, b3, b4, b5] 37)) (hY : W.heap[Y]? = some (.cells #[c0, c1, c2, c3, c4, c5, c6, c7, c8] 39))
    (h5 : tmps.getD 5 undef = .pointer (some ⟨X, 0, none⟩)) (h7 : tmps.getD 7 undef = .pointer (some ⟨Y, 0, none⟩)) :
    (results Tryz.f9 tmps).run Tryz.prog W = .ok (.tuple #[tmps.getD 4 undef, .agg #[b0, b1, b2, b3, b4, b5], tmps.getD 6 undef, .agg #[c0, c1, c2, c3, c4, c5, c6, c7, c8], tmps.getD 8 undef, tmps.getD 9 undef]) W := by
  simp only [Array.getD_eq_getD_getElem?] at h5 h7
  simp [results, Tryz.results9, go_sem, World.cell?, hX, hY, h5, h7]
/-- typeOf's contract, wherever the type and the names lie. -/
def TyOfC (U : Lib.RTab) (c : Prop) (l : AL Ty) (T : Ty) : Prop := ∀ (w' : World) (B' : Nat) (A' : Option Addr) (ca' : Nat) (cs' : List Value), B' ≤ w'.heap.size → Uni U B' w' → NdV w' (· < B') l A' 0 → TyV w' (· < B') T cs' → Calls Tryz.prog 19 #[.slice A' l.length ca', .agg cs'.toArray] w' (TypePost c w' l T)
theorem tyOfC_any {U : Lib.RTab} {l : AL Ty} {T : Ty} (hs : NdSz l) (hlen : l.length ≤ 1000000) (hwf : T.wf) (hsz : NdOk l → T.sz ≤ 2000) : TyOfC U False l T := fun w' B' A' ca' cs' hB hU hl hT => by
  refine typeOf_gen False l A' ca' T cs' w' hB hU hl hs hlen hT (fun hok => ?_) (fun hok => ?_)
  · intro w bk mn mm am left h0 h1 hp hu ht
    exact (of_any (hok.env hs) T w am left cs' h0 (by omega) hwf (hsz hok) hp hu ht).mono fun e w' h => ⟨h, fun h => h.elim⟩
  · intro w bk mn mm am left hp hn ht
    exact (sound_any l A' ca' T cs' w hp (hok.env hs).wfE hn hs hlen ht hwf).mono fun e w' ⟨r, h1, h2, h3⟩ => ⟨r, h1, h2, h3, fun h => h.elim⟩
theorem q_box {w : World} {x : Nat} {b0 b1 b2 b3 b4 : Value} {t : TypeId} (h : w.heap[x]? = some (.cells #[b0, b1, b2, b3, b4] t)) : w.cell? ⟨x, 0, none⟩ = some b0 ∧ w.cell? ⟨x, 1, none⟩ = some b1 ∧ w.cell? ⟨x, 2, none⟩ = some b2 ∧ w.cell? ⟨x, 3, none⟩ = some b3 ∧ w.cell? ⟨x, 4, none⟩ = some b4 := by
  obtain ⟨h0, h1, h2, h3, h4, _⟩ := cells5 h
  exact ⟨h0, h1, h2, h3, h4⟩
/-- What lies behind a call that turned nothing, and behind the stores of its two structs. -/
theorem q_aft {w2 w3 : World} {x X Y : Nat} {b0 b1 b2 b3 b4 i0 i1 i2 i3 i4 i5 f0 f1 f2 f3 f4 f5 f6 f7 f8 : Value} (a0 a1 a2 a3 a4 a5 c0 c1 c2 c3 c4 c5 c6 c7 c8 : Value) (hx : Ext (fun _ => False) w2 w3) (h1 : x < X) (h2 : X < Y) (h3 : Y < w2.heap.size)
    (hb : w2.heap[x]? = some (.cells #[b0, b1, b2, b3, b4] 26)) (hi : w2.heap[X]? = some (.cells #[i0, i1, i2, i3, i4, i5] 37)) (hf : w2.heap[Y]? = some (.cells #[f0, f1, f2, f3, f4, f5, f6, f7, f8] 39)) :
    (w3.cell? ⟨x, 0, none⟩ = some b0 ∧ w3.cell? ⟨x, 1, none⟩ = some b1 ∧ w3.cell? ⟨x, 2, none⟩ = some b2 ∧ w3.cell? ⟨x, 3, none⟩ = some b3 ∧ w3.cell? ⟨x, 4, none⟩ = some b4) ∧ (w3.cell? ⟨X, 0, none⟩ = some i0 ∧ w3.cell? ⟨X, 1, none⟩ = some i1 ∧ w3.cell? ⟨X, 2, none⟩ = some i2 ∧ w3.cell? ⟨X, 3, none⟩ = some i3 ∧ w3.cell? ⟨X, 4, none⟩ = some i4 ∧ w3.cell? ⟨X, 5, none⟩ = some i5 ∧ ∀ j, w3.frozen? ⟨X, j, none⟩ = false) ∧ (w3.cell? ⟨Y, 0, none⟩ = some f0 ∧ w3.cell? ⟨Y, 1, none⟩ = some f1 ∧ w3.cell? ⟨Y, 2, none⟩ = some f2 ∧ w3.cell? ⟨Y, 3, none⟩ = some f3 ∧ w3.cell? ⟨Y, 4, none⟩ = some f4 ∧ w3.cell? ⟨Y, 5, none⟩ = some f5 ∧ w3.cell? ⟨Y, 6, none⟩ = some f6 ∧ w3.cell? ⟨Y, 7, none⟩ = some f7 ∧ w3.cell? ⟨Y, 8, none⟩ = some f8 ∧ ∀ j, w3.frozen? ⟨Y, j, none⟩ = false) ∧
    ((put6 w3 X a0 a1 a2 a3 a4 a5).cell? ⟨x, 0, none⟩ = some b0 ∧ (put6 w3 X a0 a1 a2 a3 a4 a5).cell? ⟨x, 1, none⟩ = some b1 ∧ (put6 w3 X a0 a1 a2 a3 a4 a5).cell? ⟨x, 2, none⟩ = some b2 ∧ (put6 w3 X a0 a1 a2 a3 a4 a5).cell? ⟨x, 3, none⟩ = some b3 ∧ (put6 w3 X a0 a1 a2 a3 a4 a5).cell? ⟨x, 4, none⟩ = some b4) ∧ ((put9 (put6 w3 X a0 a1 a2 a3 a4 a5) Y c0 c1 c2 c3 c4 c5 c6 c7 c8).cell? ⟨x, 0, none⟩ = some b0 ∧ (put9 (put6 w3 X a0 a1 a2 a3 a4 a5) Y c0 c1 c2 c3 c4 c5 c6 c7 c8).cell? ⟨x, 1, none⟩ = some b1 ∧ (put9 (put6 w3 X a0 a1 a2 a3 a4 a5) Y c0 c1 c2 c3 c4 c5 c6 c7 c8).cell? ⟨x, 2, none⟩ = some b2 ∧ (put9 (put6 w3 X a0 a1 a2 a3 a4 a5) Y c0 c1 c2 c3 c4 c5 c6 c7 c8).cell? ⟨x, 3, none⟩ = some b3 ∧ (put9 (put6 w3 X a0 a1 a2 a3 a4 a5) Y c0 c1 c2 c3 c4 c5 c6 c7 c8).cell? ⟨x, 4, none⟩ = some b4) ∧ (put9 (put6 w3 X a0 a1 a2 a3 a4 a5) Y c0 c1 c2 c3 c4 c5 c6 c7 c8).heap[X]? = some (.cells #[a0, a1, a2, a3, a4, a5] 37) ∧ (put9 (put6 w3 X a0 a1 a2 a3 a4 a5) Y c0 c1 c2 c3 c4 c5 c6 c7 c8).heap[Y]? = some (.cells #[c0, c1, c2, c3, c4, c5, c6, c7, c8] 39) ∧ Ext (fun k => k = X ∨ k = Y) w3 (put9 (put6 w3 X a0 a1 a2 a3 a4 a5) Y c0 c1 c2 c3 c4 c5 c6 c7 c8) := by
  have hs := hx.size
  have hb3 := (hx.block x (by omega) (fun e => e)).trans hb
  have hi3 := (hx.block X (by omega) (fun e => e)).trans hi
  have hf3 := (hx.block Y (by omega) (fun e => e)).trans hf
  obtain ⟨p1, p2⟩ := put6_at a0 a1 a2 a3 a4 a5 hi3
  have hps := p2.size
  obtain ⟨q1, q2⟩ := put9_at c0 c1 c2 c3 c4 c5 c6 c7 c8 ((p2.block Y (by omega) (by omega)).trans hf3)
  have hb6 := (p2.block x (by omega) (by omega)).trans hb3
  have hb9 := (q2.block x (by omega) (by omega)).trans hb6
  exact ⟨q_box hb3, cells6 hi3, cells9 hf3, q_box hb6, q_box hb9, (q2.block X (by omega) (by omega)).trans p1, q1, (p2.mono fun _ _ e => .inl e).trans (q2.mono fun _ _ e => .inr e)⟩
theorem tup_fau {x0 x1 x2 x4 x5 y0 y1 y2 y4 y5 : Value} {c d : Array Value} (h : Ending.returned (.tuple #[x0, x1, x2, .agg c, x4, x5]) = .returned (.tuple #[y0, y1, y2, .agg d, y4, y5])) : c = d := by
  simp at h
  exact h.2.2.2.1
theorem q_call16 {tg : ByteArray → ByteArray} {U : Lib.RTab} {B : Nat} {c : Prop} (hTg : ∀ B, TagC tg B) (l : AL Ty) (A : Option Addr) (ca : Nat) (T : Ty) (cs : List Value) (w : World) (hU : Uni U B w) (hTb : Tabs B w) (hE : EofC B w) (hB : B ≤ w.heap.size) (hl : NdV w (· < w.heap.size) l A 0) (hs : NdSz l)
    (hT : TyV w (· < w.heap.size) T cs) (hwf : T.wf) (hsz : NdOk l → T.sz ≤ 2000) (hk : StrK l T) (hTy : TyOfC U c l T) : Calls Tryz.prog 16 #[.slice A l.length ca, .agg cs.toArray] w (FiePost tg U c w l T) :=
  Fields_any (hTg _) l A ca T cs w (Nat.le_refl _) (hU.up hB) (hTb.up hB) (hE.up hB) hs hT hwf hsz hk fun w' hb => hTy w' w.heap.size A ca cs hb.size ((hU.up hB).keep hb) (NdV.keep (fun b hb' => ⟨hb', hb.block b hb'⟩) _ _ _ hl) (TyV.keep (fun b hb' => ⟨hb', hb.block b hb'⟩) _ _ hT)
set_option maxHeartbeats 16000000 in
set_option maxRecDepth 100000 in
theorem theFields_any {tg : ByteArray → ByteArray} {U : Lib.RTab} {B : Nat} {c : Prop} (hTg : ∀ B, TagC tg B) (l : AL Ty) (A : Option Addr) (ca : Nat) (T : Ty) (cs : List Value) (w : World) (hB : B ≤ w.heap.size) (hU : Uni U B w) (hTb : Tabs B w) (hE : EofC B w) (hl : NdV w (· < w.heap.size) l A 0) (hs : NdSz l) (hlen : l.length ≤ 1000000)
    (hT : TyV w (· < w.heap.size) T cs) (hwf : T.wf) (hsz0 : T.sz ≤ 4000) (hsz : NdOk l → T.sz ≤ 2000) (hk : StrK l T) (hTy : TyOfC U c l T) : Calls Tryz.prog 9 #[.slice A l.length ca, .agg cs.toArray] w (FiePost tg U c w l T) := by
  have hT0 := hT
  obtain ⟨A0, ca0, D0, cd0, rfl, hbig⟩ := hT0.open_
  have HU := Lib.hid hU
  have HTB := Lib.hid hTb
  have HE := Lib.hid hE
  have HL := Lib.hid hl
  have HT := Lib.hid hT
  have HS := Lib.hid hs
  have HTY := Lib.hid hTy
  have HTG := Lib.hid hTg
  clear hU hTb hE hT hT0 hs hTy hl hTg
  go_enter Tryz.func9, Tryz.ntmps9
  go_upto_region 0 with fail
  go_cut [3, 4, 5, 6, 7, 8, 9] (fun s3 s4 s5 s6 s7 s8 s9 wx => s3 = .pointer (some ⟨w.heap.size, 0, none⟩) ∧ s4 = .slice none 0 0 ∧ s5 = .pointer (some ⟨w.heap.size + 1, 0, none⟩) ∧ s6 = .bool false ∧ s7 = .pointer (some ⟨w.heap.size + 1 + 1, 0, none⟩) ∧ s8 = .bool false ∧ s9 = .bool false ∧ Below w.heap.size w wx ∧ wx.heap[w.heap.size]? = some (.cells #[.int .i64 T.kind, .int .i64 T.n, .string T.s, .slice A0 T.of.length ca0, .slice D0 T.fields.length cd0] 26) ∧ wx.heap[w.heap.size + 1]? = some (.cells zInf 37) ∧ wx.heap[w.heap.size + 1 + 1]? = some (.cells zFau 39))
  case first =>
    go_wp2
    go_meet
    refine ⟨rfl, rfl, rfl, rfl, rfl, rfl, rfl, (((Below.refl _ _).alloc (Nat.le_refl _) _).alloc (by simp) _).alloc (by simp; omega) _, ?_, ?_, ?_⟩
    · rw [Below.heap_alloc _ _ _ (by simp; omega), Below.heap_alloc _ _ _ (by simp), heap_alloc_new]
    · rw [Below.heap_alloc _ _ _ (by simp)]
      exact heap_alloc_at (by simp) _
    · exact heap_alloc_at (by simp) _
  case rest =>
    obtain ⟨rfl, rfl, rfl, rfl, rfl, rfl, rfl, hb1, hbx, hbi, hbf⟩ := hcut
    obtain ⟨x0, x1, x2, x3, x4, _⟩ := cells5 hbx
    have hsz1 : w.heap.size + 1 + 1 < wc.heap.size := by
      rcases Nat.lt_or_ge (w.heap.size + 1 + 1) wc.heap.size with h | h
      · exact h
      · rw [Array.getElem?_eq_none h] at hbf
        cases hbf
    have y0 : wc.drew.cell? ⟨w.heap.size, 0, none⟩ = some (.int .i64 T.kind) := x0
    have y1 : wc.drew.cell? ⟨w.heap.size, 1, none⟩ = some (.int .i64 T.n) := x1
    have y2 : wc.drew.cell? ⟨w.heap.size, 2, none⟩ = some (.string T.s) := x2
    have y3 : wc.drew.cell? ⟨w.heap.size, 3, none⟩ = some (.slice A0 T.of.length ca0) := x3
    have y4 : wc.drew.cell? ⟨w.heap.size, 4, none⟩ = some (.slice D0 T.fields.length cd0) := x4
    have hbl0 : w.heap.size < wc.heap.size := by omega
    have hc17 := freshs_any l A ca wc.drew (NdV.keep (w' := wc.drew) (fun b hb => ⟨by show b < wc.heap.size; omega, hb1.block b hb⟩) _ _ _ HL.out) (fun p hp => (HS.out p hp).2) hlen
    have HC17 := Lib.hid hc17
    have HB1 := Lib.hid hb1
    have HBI := Lib.hid hbi
    have HBF := Lib.hid hbf
    have HBX := Lib.hid hbx
    have yS : wc.drew.cell? ⟨w.heap.size, 0, none⟩ = some (.int .i64 T.kind) ∧ wc.drew.cell? ⟨w.heap.size, 1, none⟩ = some (.int .i64 T.n) ∧ wc.drew.cell? ⟨w.heap.size, 2, none⟩ = some (.string T.s) ∧ wc.drew.cell? ⟨w.heap.size, 3, none⟩ = some (.slice A0 T.of.length ca0) ∧ wc.drew.cell? ⟨w.heap.size, 4, none⟩ = some (.slice D0 T.fields.length cd0) := ⟨y0, y1, y2, y3, y4⟩
    have hlt1 : w.heap.size < w.heap.size + 1 := by omega
    have hlt2 : w.heap.size + 1 < w.heap.size + 1 + 1 := by omega
    clear hc17 hb1 hbx hbi hbf x0 x1 x2 x3 x4
    go_upto_region 1 with fail
    go_region_held3 (fun w' => w'.cell? ⟨w.heap.size, 0, none⟩ = some (.int .i64 T.kind) ∧ w'.cell? ⟨w.heap.size, 1, none⟩ = some (.int .i64 T.n) ∧ w'.cell? ⟨w.heap.size, 2, none⟩ = some (.string T.s) ∧ w'.cell? ⟨w.heap.size, 3, none⟩ = some (.slice A0 T.of.length ca0) ∧ w'.cell? ⟨w.heap.size, 4, none⟩ = some (.slice D0 T.fields.length cd0))
      (first
        | with_reducible exact sS
        | with_reducible exact rS
        | with_reducible exact nS
        | with_reducible exact mS
        | with_reducible exact kS
        | with_reducible exact yS)
      (first
        | (go_at_call 16; refine HC16.out.mono ?_; rintro e w3 hp; obtain ⟨A3, n3, cap3, a, b, A', n', c', m', o', I', k', d', has, fc, ln, m, t, s, f1, t1, f2, t2, ok, bad, rfl⟩ := hp.form; have HP := Lib.hid hp; clear hp; obtain ⟨nS, ⟨i0, i1, i2, i3, i4, i5, z1⟩, ⟨g0, g1, g2, g3, g4, g5, g6, g7, g8, z2⟩, rS, sS, p1, q1, hx9⟩ := q_aft (.string a) (.string b) (.slice A' n' c') (.int .i64 m') (.bool o') (.slice I' k' d') (.int .i64 fc) (.int .i64 ln) (.string m) (.string t) (.string s) (.string f1) (.string t1) (.string f2) (.string t2) HP.out.ext hlt1 hlt2 hlt3 HBX2.out HBI2.out HBF2.out; have HP1 := Lib.hid p1; have HQ1 := Lib.hid q1; have HX9 := Lib.hid hx9; clear p1 q1 hx9)
        | (go_at_call 18; refine HC18.out.mono ?_; rintro e w2 ⟨cs2, rfl, hb2, ht2⟩; obtain ⟨A9, c9, B9, d9, rfl, _⟩ := ht2.open_; have hs2 := hb2.size; have hlt3 : w.heap.size + 1 + 1 < w2.heap.size := (by omega); have hbi2 := (hb2.block (w.heap.size + 1) (by omega)).trans HBI1.out; have hbf2 := (hb2.block (w.heap.size + 1 + 1) (by omega)).trans HBF1.out; have hbx2 := (hb2.block w.heap.size (by omega)).trans HBX1.out; have mS := q_box hbx2; have hbw2 := HBW1.out.trans (hb2.mono (by omega)); have hnd2 : NdV w2 (· < w2.heap.size) l A1 0 := NdV.keep (fun b ⟨z1, z2⟩ => ⟨by omega, hb2.block b z2⟩) _ _ _ HN1.out; have hty2 : TyV w2 (· < w2.heap.size) T _ := TyV.keep (fun b ⟨z1, z2⟩ => ⟨z2, rfl⟩) _ _ ht2; have hc16 := q_call16 HTG.out l A1 c1 T _ w2 (HU.out.keep (hbw2.mono hB)) (HTB.out.keep (hbw2.mono hB)) (HE.out.keep (hbw2.mono hB)) (by have := hbw2.size; omega) hnd2 HS.out hty2 hwf hsz hk HTY.out; have HC16 := Lib.hid hc16; have HBI2 := Lib.hid hbi2; have HBF2 := Lib.hid hbf2; have HBX2 := Lib.hid hbx2; have HBW2 := Lib.hid hbw2; clear hb2 ht2 hbi2 hbf2 hbx2 hbw2 hnd2 hty2 hc16)
        | (go_at_call 17; refine HC17.out.mono ?_; rintro e w1 ⟨A1, c1, rfl, hb1, hn1⟩; have hb1 := below_of_drew hb1; have hs1 := hb1.size; have hbi1 := (hb1.block (w.heap.size + 1) (by omega)).trans HBI.out; have hbf1 := (hb1.block (w.heap.size + 1 + 1) (by omega)).trans HBF.out; have hbx1 := (hb1.block w.heap.size (by omega)).trans HBX.out; have kS := q_box hbx1; have hbw1 := HB1.out.trans (hb1.mono (by omega)); have hn1 : NdV w1 (fun b => wc.heap.size ≤ b ∧ b < w1.heap.size) l A1 0 := NdV.keep (fun b hb => ⟨hb, rfl⟩) _ _ _ hn1; have hc18 := fresh_any 4000 T hsz0 (by omega) w1 _ (TyV.keep (w' := w1) (fun b hb => ⟨by omega, hbw1.block b hb⟩) _ _ HT.out); have HC18 := Lib.hid hc18; have HBI1 := Lib.hid hbi1; have HBF1 := Lib.hid hbf1; have HBX1 := Lib.hid hbx1; have HBW1 := Lib.hid hbw1; have HN1 := Lib.hid hn1; clear hb1 hbi1 hbf1 hbx1 hbw1 hn1 hc18))
    all_goals
      go_wp2_with fail
      obtain ⟨W9, hW9⟩ : ∃ W9, W9 = put9 (put6 w3 (w.heap.size + 1) (.string a) (.string b) (.slice A' n' c') (.int .i64 m') (.bool o') (.slice I' k' d')) (w.heap.size + 1 + 1) (.int .i64 fc) (.int .i64 ln) (.string m) (.string t) (.string s) (.string f1) (.string t1) (.string f2) (.string t2) := ⟨_, rfl⟩
      have p1 := HP1.out
      have q1 := HQ1.out
      have hx9 := HX9.out
      rw [← hW9] at p1 q1 hx9
      have hs3 := HP.out.ext.size
      have hs9 := hx9.size
      have hX3 : w3.heap[w.heap.size + 1]? = some (.cells zInf 37) := (HP.out.ext.block (w.heap.size + 1) (by omega) (fun e => e)).trans HBI2.out
      have hY3 : w3.heap[w.heap.size + 1 + 1]? = some (.cells zFau 39) := (HP.out.ext.block (w.heap.size + 1 + 1) (by omega) (fun e => e)).trans HBF2.out
      have hww : Ext (fun _ => False) w W9 := ext_step ((Ext.of_below (S := fun _ => False) HBW2.out).trans HP.out.ext) hx9 (fun i hi => by rcases hi with hi | hi <;> omega)
      have hfin := HP.out.keepBox (w0 := w) (w9 := W9) hX3 (fun he b hb hn => by
        by_cases hY : b = w.heap.size + 1 + 1
        · subst hY
          obtain ⟨_, _, _, _, _, he⟩ := he
          have hz := tup_fau he
          have q1d : W9.heap[w.heap.size + 1 + 1]? = some (.cells zFau 39) := by rw [← hz]; exact q1
          exact q1d.trans hY3.symm
        · exact hx9.block b hb (by omega)) hww
      clear hx9 hww
      subst hW9
      refine bodyPost_ret (res9 _ p1 q1 rfl rfl) rfl ?_
      exact hfin
end Go.Proofs.YtnmgocbmofbppaaGreatDoor
namespace Go.Proofs.YtnmgocbmofbppaaGreatDoor
open Go.RowKit

theorem tup6 {x0 x1 x2 x3 x4 x5 y0 y1 y2 y3 y4 y5 : Value} (h : Ending.returned (.tuple #[x0, x1, x2, x3, x4, x5]) = .returned (.tuple #[y0, y1, y2, y3, y4, y5])) : x0 = y0 ∧ x1 = y1 ∧ x2 = y2 ∧ x3 = y3 ∧ x4 = y4 ∧ x5 = y5 := by
  simpa using h
theorem fld_inner {ex : ByteArray → Bool} {l : AL Ty} {f : Fl} {n1 n2 d1 d2 : Nat} (ht : f.tag = ⟨#[]⟩) (he : f.emb = true) (hk : (envT l f.name).kind = 13) (c1 : Cn l n1 (envT l f.name).fields d1) (c2 : Cn l n2 [f] d2) :
    gti tgF ex l n2 [f] = match gti tgF ex l n1 (envT l f.name).fields with
      | .error b => .error b
      | .ok t => .ok ⟨t.xn, t.fs.map fun x => ⟨x.fi, 0 :: x.idx⟩⟩ := by
  have h2 := c2.deep
  cases n2 with
  | zero => exact h2.elim
  | succ m =>
    have hm : Deep l m (envT l f.name).fields := h2 f (by simp) he hk
    rw [gti_inner (by rw [ht, tgF_empty, ByteArray.toList_eq]) he hk, gti_fuel hm c1.deep]
    cases gti tgF ex l n1 (envT l f.name).fields <;> rfl
/-- The two roads' results, side by side. -/
theorem inner_laws {U : Lib.RTab} {l : AL Ty} {name : ByteArray} {tt : Ty} {w3 w4 w6 w7 : World} {A3 A4 : Option Addr} {n3 n4 c3 c4 : Nat} {v3 v4 : Array Value} {has3 has4 ok3 ok4 : Bool} {fc3 fc4 : Int} {g3 g4 : List Value} (hk : (envT l name).kind = 13)
    (h3 : FiePost tgF U False w3 l (.mk 14 0 name [] []) (.returned (.tuple #[.slice A3 n3 c3, .agg v3, .bool has3, .agg (.int .i64 fc3 :: g3).toArray, .bool ok3, .bool false])) w4)
    (h4 : FiePost tgF U False w6 l (.mk 13 0 ⟨#[]⟩ [] [.mk name ⟨#[]⟩ true tt]) (.returned (.tuple #[.slice A4 n4 c4, .agg v4, .bool has4, .agg (.int .i64 fc4 :: g4).toArray, .bool ok4, .bool false])) w7) :
    (ok3 = ok4 ∧ has3 = has4 ∧ fc3 = fc4 ∧ n3 = n4) ∧ n3 ≤ 1000000 ∧ ((has3 = false ∧ n3 = 0) ∨ ∃ t : Ti, n3 = t.fs.length ∧ has3 = t.xn.isSome ∧ RowsI w4 A3 t.fs ∧ RowsI w7 A4 (t.fs.map fun x => ⟨x.fi, 0 :: x.idx⟩) ∧ (∀ x ∈ t.fs, x.idx ≠ []) ∧ ∀ x, t.xn = some x → InfV w4 v3.toList x ∧ InfV w7 v4.toList x) := by
  rcases h3.res with ⟨e, _⟩ | ⟨n1, d1, qd, q2, _, _, _, e1, e2⟩
  · have := (tup6 e).2.2.2.2.2
    cases this
  · rcases h4.res with ⟨e, _⟩ | ⟨m1, d2, _, r2, _, _, _, f1, f2⟩
    · have := (tup6 e).2.2.2.2.2
      cases this
    · have hf1 : fsOf l (.mk 14 0 name [] []) = (envT l name).fields := if_pos rfl
      have hf2 : fsOf l (.mk 13 0 ⟨#[]⟩ [] [.mk name ⟨#[]⟩ true tt]) = [.mk name ⟨#[]⟩ true tt] := if_neg (by show ¬ (13 : Int) = 14; decide)
      rw [hf1] at q2 e1 e2
      rw [hf2] at r2 f1 f2
      have hg2 := fld_inner (ex := exOf U) (f := .mk name ⟨#[]⟩ true tt) rfl rfl hk q2 r2
      cases hg : gti tgF (exOf U) l n1 (envT l name).fields with
      | error b =>
        have hg2 : gti tgF (exOf U) l m1 [.mk name ⟨#[]⟩ true tt] = .error b := by rw [hg2, show (envT l (Fl.mk name ⟨#[]⟩ true tt).name).fields = (envT l name).fields from rfl, hg]
        obtain ⟨_, _, _, _, _, _, _, _, he1⟩ := e1 b hg
        obtain ⟨_, _, _, _, _, _, _, _, he2⟩ := f1 b hg2
        obtain ⟨a0, _, a2, a3, a4, _⟩ := tup6 he1
        obtain ⟨b0, _, b2, b3, b4, _⟩ := tup6 he2
        injection a0 with _ a0 _
        injection b0 with _ b0 _
        injection a2 with a2
        injection b2 with b2
        injection a4 with a4
        injection b4 with b4
        injection a3 with a3
        injection b3 with b3
        have a3 := congrArg Array.toList a3
        have b3 := congrArg Array.toList b3
        simp at a3 b3
        exact ⟨⟨by rw [a4, b4], by rw [a2, b2], by rw [a3.1, b3.1], by rw [a0, b0]⟩, by omega, .inl ⟨a2, a0⟩⟩
      | ok t =>
        have hg2 : gti tgF (exOf U) l m1 [.mk name ⟨#[]⟩ true tt] = .ok ⟨t.xn, t.fs.map fun x => ⟨x.fi, 0 :: x.idx⟩⟩ := by rw [hg2, show (envT l (Fl.mk name ⟨#[]⟩ true tt).name).fields = (envT l name).fields from rfl, hg]
        obtain ⟨_, _, _, he1, k1, _, k2⟩ := e2 t hg
        obtain ⟨_, _, _, he2, j1, _, j2⟩ := f2 _ hg2
        obtain ⟨a0, a1, a2, a3, a4, _⟩ := tup6 he1
        obtain ⟨b0, b1, b2, b3, b4, _⟩ := tup6 he2
        injection a0 with a00 a0 _
        injection b0 with b00 b0 _
        injection a1 with a1
        injection b1 with b1
        injection a2 with a2
        injection b2 with b2
        injection a4 with a4
        injection b4 with b4
        injection a3 with a3
        injection b3 with b3
        have a3 := congrArg Array.toList a3
        have b3 := congrArg Array.toList b3
        simp at a3 b3
        subst a00 b00 a1 b1
        have b0 : n4 = t.fs.length := by rw [b0]; simp
        refine ⟨⟨by rw [a4, b4], by rw [a2, b2], by rw [a3.1, b3.1], by rw [a0, b0]⟩, by have := (gti_ok q2 hg).1; omega, .inr ⟨t, a0, a2, k1, j1, fun x hx => ((gti_ok q2 hg).2 x hx).2.2, fun x hx => ⟨k2 x hx, j2 x hx⟩⟩⟩
end Go.Proofs.YtnmgocbmofbppaaGreatDoor
namespace Go.Proofs.YtnmgocbmofbppaaGreatDoor
open Go.RowKit

theorem pb_head : getHead pbTag = some (xmlKey, ⟨#[34, 98, 44, 97, 116, 116, 114, 34]⟩, ⟨#[]⟩) := by decide +kernel
theorem pb_unq : unqR ⟨#[34, 98, 44, 97, 116, 116, 114, 34]⟩ = some ⟨#[98, 44, 97, 116, 116, 114]⟩ := by
  have h1 : Lib.indexByte ((⟨#[34, 98, 44, 97, 116, 116, 114, 34]⟩ : ByteArray).extract 1 (⟨#[34, 98, 44, 97, 116, 116, 114, 34]⟩ : ByteArray).size).data.toList 34 = 6 := by decide +kernel
  have h2 : plainOk ⟨#[34, 98, 44, 97, 116, 116, 114, 34]⟩ 8 = true := by decide +kernel
  have hu : unqf ⟨#[34, 98, 44, 97, 116, 116, 114, 34]⟩ = some (⟨#[98, 44, 97, 116, 116, 114]⟩, ⟨#[]⟩) := by
    unfold unqf
    simp only [h1]
    rw [if_neg (by decide), if_pos (by exact h2)]
    decide +kernel
  unfold unqR
  rw [hu]
  rfl
theorem tgF_probe : tgF pbTag = ⟨#[98, 44, 97, 116, 116, 114]⟩ := by
  unfold tgF
  rw [getF_succ, if_neg (by decide), pb_head]
  have h : getO pbTag.size (some (xmlKey, ⟨#[34, 98, 44, 97, 116, 116, 114, 34]⟩, ⟨#[]⟩)) = (unqR ⟨#[34, 98, 44, 97, 116, 116, 114, 34]⟩).getD ⟨#[]⟩ := by
    rw [show getO pbTag.size (some (xmlKey, ⟨#[34, 98, 44, 97, 116, 116, 114, 34]⟩, ⟨#[]⟩)) = if xmlKey = xmlKey then (unqR ⟨#[34, 98, 44, 97, 116, 116, 114, 34]⟩).getD ⟨#[]⟩ else getF pbTag.size ⟨#[]⟩ from rfl]
    exact if_pos rfl
  rw [h, pb_unq]
  rfl
theorem exOf_probe (U : Lib.RTab) : exOf U ⟨#[65]⟩ = true := by
  have h : Lib.decodeGo ⟨#[65]⟩ = (65, 1) := by decide +kernel
  unfold exOf
  rw [h]
  rw [if_pos (by decide)]
  decide
theorem sfi_probe (lk : Lk) : sfi tgF lk ⟨#[65]⟩ pbTag = some ⟨⟨#[98]⟩, ⟨#[]⟩, 2, []⟩ := by
  unfold sfi
  rw [tgF_probe]
  have h : flagsOf ((⟨#[65]⟩ : ByteArray).toList == xmlNameL) (nsOf ⟨#[98, 44, 97, 116, 116, 114]⟩).2 = some (⟨#[98]⟩, 2) := by decide +kernel
  simp only [h]
  have h2 : (nsOf ⟨#[98, 44, 97, 116, 116, 114]⟩).1 = ⟨#[]⟩ := by decide +kernel
  rw [h2]
  have h3 : ((⟨#[65]⟩ : ByteArray).toList == xmlNameL) = false := by decide +kernel
  rw [h3]
  unfold sfi2
  rw [if_neg (by decide +kernel), if_neg (by decide), if_neg (by decide +kernel)]
  have hp : pathOf ⟨#[65]⟩ ⟨#[98]⟩ = [⟨#[98]⟩] := by decide +kernel
  rw [hp]
  unfold sfiPath
  show (if (⟨#[98]⟩ : ByteArray).toList.isEmpty = true then none else _) = _
  rw [if_neg (by decide +kernel), if_neg (by decide), if_neg (by rw [show decide (fAnd 2 1 ≠ 0) = false by decide +kernel, Bool.false_and]; decide)]
  rfl
theorem gti_probe (U : Lib.RTab) (l : AL Ty) (n : Nat) : gti tgF (exOf U) l (n + 1) [pbFl] = .ok ⟨none, [⟨⟨⟨#[98]⟩, ⟨#[]⟩, 2, []⟩, [0]⟩]⟩ := by
  show gtiGo _ _ _ _ _ _ _ = _
  have hs : gtiStep tgF (exOf U) l (gti tgF (exOf U) l n) 0 pbFl ⟨none, []⟩ = .ok ⟨none, [⟨⟨⟨#[98]⟩, ⟨#[]⟩, 2, []⟩, [0]⟩]⟩ := by
    unfold gtiStep
    have hc : ¬ (((!exOf U (Fl.name pbFl) && !Fl.emb pbFl) || (tgF (Fl.tag pbFl)).toList == [45]) = true) := by
      rw [show Fl.name pbFl = ⟨#[65]⟩ from rfl, show Fl.tag pbFl = pbTag from rfl, exOf_probe, tgF_probe]
      decide +kernel
    have hd : ¬ (Fl.emb pbFl = true ∧ (envT l (Fl.name pbFl)).kind = 13) := fun h => by cases h.1
    rw [if_neg hc, if_neg hd]
    rw [show Fl.name pbFl = ⟨#[65]⟩ from rfl, show Fl.tag pbFl = pbTag from rfl, sfi_probe]
    show (if ((⟨#[65]⟩ : ByteArray).toList == xmlNameL) = true then _ else _) = _
    rw [if_neg (by decide +kernel)]
    rfl
  unfold gtiGo
  rw [hs]
  rfl
end Go.Proofs.YtnmgocbmofbppaaGreatDoor
namespace Go.Proofs.YtnmgocbmofbppaaGreatDoor
open Go.RowKit

abbrev pbFx : Fx := ⟨⟨⟨#[98]⟩, ⟨#[]⟩, 2, []⟩, [0]⟩
theorem pb_tyv {W : World} {R : Nat} (hR : W.heap[R]? = some (.cells #[.string ⟨#[65]⟩, .string pbTag, .bool false, .int .i64 2, .int .i64 64, .string ⟨#[]⟩, .slice none 0 0, .slice none 0 0] 32)) :
    TyV W (· < W.heap.size) pbT [.int .i64 13, .int .i64 0, .string ⟨#[]⟩, .slice none 0 0, .slice (some ⟨R, 0, none⟩) 1 1] := by
  obtain ⟨x0, x1, x2, x3, x4, x5, x6, x7, _⟩ := q_cells8 hR
  refine ⟨none, 0, some ⟨R, 0, none⟩, 1, rfl, ⟨by decide, by simp [big], by simp [big]⟩, trivial, ⟨⟨R, 0, _, rfl, lt_cell x0, ⟨_, rfl, ⟨by decide, by decide⟩, ⟨none, 0, none, 0, rfl, ⟨by decide, by simp [big], by simp [big]⟩, trivial, trivial⟩⟩, fun j v e => ?_⟩, trivial⟩⟩
  have hj : j < 8 := by have := (List.getElem?_eq_some_iff.1 e).1; simpa using this
  obtain rfl | rfl | rfl | rfl | rfl | rfl | rfl | rfl : j = 0 ∨ j = 1 ∨ j = 2 ∨ j = 3 ∨ j = 4 ∨ j = 5 ∨ j = 6 ∨ j = 7 := by omega
  all_goals (simp at e; subst e)
  · exact x0
  · exact x1
  · exact x2
  · exact x3
  · exact x4
  · exact x5
  · exact x6
  · exact x7
/-- What Fields leaves at the probe. -/
theorem pb_post {U : Lib.RTab} {w w' : World} {e : Ending} (h : FiePost tgF U True w [] pbT e w') : ∃ g cap a b A n c m o I k d, e = .returned (.tuple #[.slice (some ⟨g, 0, none⟩) 1 cap, .agg #[.string a, .string b, .slice A n c, .int .i64 m, .bool o, .slice I k d], .bool false, .agg zFau, .bool true, .bool false]) ∧
    w'.cell? ⟨g, 1, none⟩ = some (.string ⟨#[98]⟩) ∧ w'.cell? ⟨g, 3, none⟩ = some (.int .i64 2) := by
  rcases h.res with ⟨_, h1⟩ | ⟨n, d, _, hc, _, _, _, _, h2⟩
  · exact absurd ⟨trivial, rfl⟩ h1
  · have hf : fsOf [] pbT = [pbFl] := if_neg (by show ¬ (13 : Int) = 14; decide)
    rw [hf] at hc h2
    cases n with
    | zero => exact hc.deep.elim
    | succ n =>
      obtain ⟨A, cap, nvs, he, hr, ⟨a, b, A', n', c', m', o', I', k', d', hl⟩, _⟩ := h2 _ (gti_probe U [] n)
      obtain rfl := arr_of hl
      obtain ⟨g, vs, rfl, ⟨pv, iv, rfl, _⟩, hcs⟩ := hr 0 pbFx rfl
      exact ⟨g, cap, a, b, A', n', c', m', o', I', k', d', he, hcs 1 _ rfl, hcs 3 _ rfl⟩
set_option maxHeartbeats 16000000 in
set_option maxRecDepth 100000 in
theorem sees_of {U : Lib.RTab} {B : Nat} (hTy : TyOfC U True [] pbT) (w : World) (hB : B ≤ w.heap.size) (hU : Uni U B w) (hTb : Tabs B w) (hE : EofC B w) : Calls Tryz.prog 8 #[] w fun e w' => e = .returned (.bool true) ∧ Below w.heap.size w w' := by
  have HU := Lib.hid hU
  have HTB := Lib.hid hTb
  have HE := Lib.hid hE
  have HTY := Lib.hid hTy
  clear hU hTb hE hTy
  go_enter Tryz.func8, Tryz.ntmps8
  go_upto_region 1 with fail
  go_cut [1] (fun s1 wx => s1 = .pointer (some ⟨w.heap.size + 1, 0, none⟩) ∧ Below w.heap.size w wx ∧ wx.heap[w.heap.size]? = some (.cells #[.string ⟨#[65]⟩, .string pbTag, .bool false, .int .i64 2, .int .i64 64, .string ⟨#[]⟩, .slice none 0 0, .slice none 0 0] 32) ∧ wx.heap[w.heap.size + 1]? = some (.cells #[.int .i64 13, .int .i64 0, .string ⟨#[]⟩, .slice none 0 0, .slice (some ⟨w.heap.size, 0, none⟩) 1 1] 26))
  case first =>
    go_wp2
    go_meet
    exact ⟨by simp, ((Below.refl _ _).alloc (Nat.le_refl _) _).alloc (by simp) _, (Below.heap_alloc _ _ _ (by simp)).trans (heap_alloc_new _ _), heap_alloc_at (by simp) _⟩
  case rest =>
    obtain ⟨rfl, hb1, hf1, hx1⟩ := hcut
    obtain ⟨x0, x1, x2, x3, x4, xf⟩ := cells5 hx1
    obtain ⟨W1, hW1⟩ : ∃ W1, W1 = wc := ⟨_, rfl⟩
    subst hW1
    have hc := theFields_any (c := True) (fun B => tgF_c B) [] none 0 pbT _ W1 (by have := hb1.size; omega) (HU.out.keep (hb1.mono hB)) (HTB.out.keep (hb1.mono hB)) (HE.out.keep (hb1.mono hB)) trivial (by intro p hp; cases hp) (by simp) (pb_tyv hf1) pb_wf (by decide) (fun _ => by decide) (.inl rfl) HTY.out
    have HC := Lib.hid hc
    have HB1 := Lib.hid hb1
    clear hc hb1 hf1 hx1
    go_upto_region 3 with (go_at_call 9; refine HC.out.mono ?_; rintro e w4 hp; obtain ⟨g, cap, a, b, A, n, c, m, o, I, k, d, rfl, hc1, hc3⟩ := pb_post hp; have HX := Lib.hid hp.ext; clear hp)
    have hs4 := HX.out.size
    have hb14 : Below W1.heap.size W1 w4 := HX.out.below (fun _ e => e.elim) (Nat.le_refl _)
    obtain ⟨W5, hW5⟩ : ∃ W5, W5 = (w4.alloc (.cells #[.string a, .string b, .slice A n c, .int .i64 m, .bool o, .slice I k d] 37)).alloc (.cells zFau 39) := ⟨_, rfl⟩
    have hb45 : Below w4.heap.size w4 W5 := by rw [hW5]; exact ((Below.refl _ _).alloc (Nat.le_refl _) _).alloc (by simp) _
    have hg : g < w4.heap.size := lt_cell hc1
    have z1 : W5.cell? ⟨g, 1, none⟩ = some (.string ⟨#[98]⟩) := (World.cell?_of_block (hb45.block g hg)).trans hc1
    have z3 : W5.cell? ⟨g, 3, none⟩ = some (.int .i64 2) := (World.cell?_of_block (hb45.block g hg)).trans hc3
    have hbw := HB1.out.trans ((hb14.trans (hb45.mono hs4)).mono HB1.out.size)
    have HBW := Lib.hid hbw
    clear hbw hb14 hb45 hc1 hc3 x0 x1 x2 x3 x4 xf
    rw [← hW5]
    clear hW5
    go_wp2
    go_ret
    exact ⟨rfl, HBW.out⟩
/-- A tag is seen. -/
def SeesC (U : Lib.RTab) (B : Nat) : Prop := ∀ w : World, B ≤ w.heap.size → Uni U B w → Tabs B w → EofC B w → Calls Tryz.prog 8 #[] w fun e w' => e = .returned (.bool true) ∧ Below w.heap.size w w'
theorem sees_c {U : Lib.RTab} (B : Nat) (hTy : TyOfC U True [] pbT) : SeesC U B := fun w h1 h2 h3 h4 => sees_of hTy w h1 h2 h3 h4
end Go.Proofs.YtnmgocbmofbppaaGreatDoor
namespace Go.Proofs.YtnmgocbmofbppaaGreatDoor
open Go.RowKit

/-- The probe in memory, in the walk's words. -/
theorem pb_open {w : World} {ok : Nat → Prop} {cs : List Value} (h : TyV w ok pbT cs) : ∃ A co b off cf A1 c1 D1 d1, cs = [.int .i64 13, .int .i64 0, .string ⟨#[]⟩, .slice A 0 co, .slice (some ⟨b, off, none⟩) 1 cf] ∧ ok b ∧ PbR w b off A1 c1 D1 d1 := by
  obtain ⟨A, co, D, cf, rfl, _, _, hf⟩ := h
  obtain ⟨b, off, A1, c1, D1, d1, rfl, hb, _, _, e0, e1, e2, e3, e4, e5, e6, e7⟩ := FlsV.at_ (j := 0) hf rfl
  simp only [Nat.zero_mul, Nat.add_zero] at e0 e1 e2 e3 e4 e5 e6 e7
  exact ⟨A, co, b, off, cf, A1, c1, D1, d1, rfl, hb, e0, e1, e2, e3, e4, e5, e6, e7⟩
set_option maxHeartbeats 3200000 in
set_option maxRecDepth 100000 in
theorem of_s {U : Lib.RTab} {B bk mn mm : Nat} {env : AL Ty} (w : World) (am : Am) (left : Int) (cs : List Value) (hlo : 96000 ≤ left) (h1 : left ≤ 1000000)
    (h : MPre w B bk mn mm env am left) (hU : Uni U B w) (hT : TyV w (· < B) pbT cs) : Calls Tryz.prog 24 #[.pointer (some ⟨bk, 0, none⟩), .agg cs.toArray] w fun e w' => OfPost w B bk mn mm env am left pbT e w' ∧ OkEnd e := by
  have hT0 := hT
  obtain ⟨A, ca, b, off, cd, A1, c1, D1, d1, rfl, hbB, hR⟩ := pb_open hT0
  have hB := h.hB
  have hBm := h.hBm
  have hbk := h.hlt
  have hmm := h.ltm
  have hma := MStep.alloc h (fun k => k = bk ∨ k = mm) (.cells (pbCs A ca b off cd) 26)
  have hbx := Box5'.new w (.int .i64 13) (.int .i64 0) (.string ⟨#[]⟩) (.slice A 0 ca) (.slice (some ⟨b, off, none⟩) 1 cd) 26
  have hU1 : ∀ o, Uni U B (w.alloc o) := fun o => hU.keep ((Ext.alloc (S := fun _ => False) w o).below (fun _ e => e.elim) (by omega))
  have hT1 : ∀ o, TyV (w.alloc o) (· < B) pbT _ := fun o => TyV.keep (fun b hb => ⟨hb, Below.heap_alloc w o b (by omega)⟩) _ _ hT
  have hk30 := make_pb_s (U := U) (w.alloc (.cells (pbCs A ca b off cd) 26)) am left 0 _ hlo h1 (by decide) (by decide) hma.pre (hU1 _) (hT1 _)
  have HMA := Lib.hid hma
  have HBX := Lib.hid hbx
  have HK := Lib.hid hk30
  have HPR := Lib.hid hR
  have hmk := @run_makeMap Tryz.prog
  clear hT h hma hbx hU hU1 hT1 hT0 hk30 hR
  go_enter Tryz.func24, Tryz.ntmps24
  go_wp2_with (go_at_call 30; refine HK.out.mono ?_; rintro e w2 ⟨⟨p, r, L, am', rfl, hm, hL, hL1, hr⟩, hok⟩; have hrt := hok.true_; subst hrt; clear hok; refine Hid.out ?_)
  refine Lib.hid ?_
  have hs2 : w.heap.size < w2.heap.size := by have := hm.ext.size; simp at this; omega
  have hbx2 := HBX.out.keep (hm.ext.block w.heap.size (by simp) (by omega))
  have hm2 := HMA.out.trans hm
  have hR2 := HPR.out.keep (hm2.ext.block b (by omega) (by omega))
  have ⟨g0, g1, g2, g3, g4⟩ := hbx2
  have HM2 := Lib.hid hm2
  have HM := Lib.hid hm
  have HR := Lib.hid hr
  have HR2 := Lib.hid hR2
  clear hm hm2 hbx2 hr hR2 HBX
  obtain ⟨hL0, ⟨y, rfl, hy⟩, hd⟩ := HR.out (by trivial)
  have hb2 := HM2.out.pre.hlt
  have hm2 := HM2.out.pre.ltm
  have hn2 := HM2.out.pre.nm.ltm
  have hy2 : RT w2 (Fresh w w2 am') am' pbT y := RT.keep (fun i hi => ⟨hi.late (by simp), rfl⟩) (fun _ _ e => e) _ _ hy
  have hd2 : Dones w w2 am am' env := Dones.trans HMA.out HM.out (fun i hi => by omega) (fun s b e1 e2 => by simp [e1] at e2) hd
  have hk31 := ends_pb (w := w2.alloc (.map #[] 0)) (.pointer (some ⟨bk, 0, none⟩)) A ca b off cd w2.heap.size (HR2.out.keep (Below.heap_alloc w2 _ b (by omega)))
  have HY := Lib.hid hy2
  have HD := Lib.hid hd2
  have HK31 := Lib.hid hk31
  clear hy hd hy2 hd2 hk31
  go_wp2_with (go_at_call 31; refine HK31.out.mono ?_; rintro e w5 ⟨rfl, hx5⟩; refine Hid.out ?_)
  refine Lib.hid ?_
  have hx5' : Ext (fun _ => False) w2 w5 := (Ext.alloc _ _).trans hx5
  have hbl5 : ∀ b, b < w2.heap.size → w5.heap[b]? = w2.heap[b]? := fun b hb => hx5'.block b hb (fun e => e)
  have hm5 := MStep.free (S := fun k => k = bk ∨ k = mm) HM2.out.pre hx5'
  have hy5 := RT.step HM2.out hm5 (fun i hi => by omega) HY.out
  have hd5 := Dones.step HM2.out hm5 (fun i hi => by omega) HD.out
  have g0 : w5.cell? ⟨w.heap.size, 0, none⟩ = _ := (World.cell?_of_block (hbl5 _ hs2)).trans g0
  have g1 : w5.cell? ⟨w.heap.size, 1, none⟩ = _ := (World.cell?_of_block (hbl5 _ hs2)).trans g1
  have g2 : w5.cell? ⟨w.heap.size, 2, none⟩ = _ := (World.cell?_of_block (hbl5 _ hs2)).trans g2
  have g3 : w5.cell? ⟨w.heap.size, 3, none⟩ = _ := (World.cell?_of_block (hbl5 _ hs2)).trans g3
  have g4 : w5.cell? ⟨w.heap.size, 4, none⟩ = _ := (World.cell?_of_block (hbl5 _ hs2)).trans g4
  have hk32 := small_pb (w := w5) A ca b off cd L (by omega) (by omega) (HR2.out.keep (hbl5 b (by omega))) (by omega) (HM2.out.trans hm5).pre.spre
  have HM5 := Lib.hid (HM2.out.trans hm5)
  have HY5 := Lib.hid hy5
  have HD5 := Lib.hid hd5
  have HK32 := Lib.hid hk32
  clear hbl5 hx5 hx5' hm5 hy5 hd5 HM HY HD hk32
  go_wp2_with (go_at_call 32; refine HK32.out.mono ?_; rintro e w6 ⟨rfl, hsp, hx⟩; refine Hid.out ?_)
  refine Lib.hid ?_
  have hm6 := MStep.small HM5.out.pre hsp hx
  have hy6 := RT.step HM5.out hm6 (fun i hi => by omega) HY5.out
  have hd6 := Dones.step HM5.out hm6 (fun i hi => by omega) HD5.out
  have HM6 := Lib.hid (HM5.out.trans hm6)
  have HY6 := Lib.hid hy6
  have HD6 := Lib.hid hd6
  clear hm6 hy6 hd6 hsp hx
  go_wp2_with fail
  go_ret2
  exact ⟨⟨_, true, L - 2, am', rfl, HM6.out, by omega, fun h => ⟨by omega, ⟨y, rfl, HY6.out⟩, HD6.out⟩⟩, _, rfl⟩
theorem pb_ways : WaysOk [] pbT := ⟨_, by decide, .struct [1] rfl fun j f c h1 h2 h3 => by
  have hj : j = 0 := by
    have := (List.getElem?_eq_some_iff.1 h1).1
    simp at this
    omega
  subst hj
  simp at h1
  subst h1
  cases h3⟩
/-- What typeOf says of the probe. -/
theorem pb_typeOf (U : Lib.RTab) : TyOfC U True [] pbT := fun w' B' A' ca' cs' hB hU hl hT => by
  have hpw : ∀ w'' : World, True := fun _ => trivial
  have hs : NdSz [] := by intro p hp; cases hp
  refine typeOf_gen True [] A' ca' pbT cs' w' hB hU hl hs (by simp) hT (fun hok => ?_) (fun hok => ?_)
  · intro w bk mn mm am left h0 h1 hp hu ht
    by_cases hle : left = 100000
    · refine (of_s w am left _ (by omega) (by omega) hp hu ht).mono fun e w' h => ⟨h.1, fun _ _ => ?_⟩
      obtain ⟨p, q, n, a, he, _⟩ := h.1
      obtain ⟨p', he'⟩ := h.2
      subst he
      simp at he'
      exact ⟨p, by rw [he'.2]⟩
    · exact (of_any (hok.env hs) pbT w am left _ h0 (by omega) pb_wf (by decide) hp hu ht).mono fun e w' h => ⟨h, fun _ e => absurd e hle⟩
  · intro w bk mn mm am left hp hn ht
    obtain ⟨A, co, b, off, cf, A1, c1, D1, d1, rfl, hbB, hR⟩ := pb_open ht
    refine (sound_pb (.pointer (some ⟨bk, 0, none⟩)) A' ca' A co b off cf hR).mono fun e w' ⟨h1, h2⟩ => ⟨true, h1, h2, fun _ => ⟨by simp, pb_ways⟩, fun _ => rfl⟩
theorem sees_any (U : Lib.RTab) (B : Nat) : SeesC U B := sees_c B (pb_typeOf U)
end Go.Proofs.YtnmgocbmofbppaaGreatDoor
namespace Go.Proofs.YtnmgocbmofbppaaGreatDoor
open Go.RowKit

/-- The fields turned by n. -/
def turn (n : Nat) (fs : List Fl) : List Fl := fs.drop n ++ fs.take n
theorem turn_len {n : Nat} {fs : List Fl} : (turn n fs).length = fs.length := by
  unfold turn
  simp only [List.length_append, List.length_drop, List.length_take]
  omega
theorem turn_at {n : Nat} {fs : List Fl} (hn : n < fs.length) {k : Nat} (hk : k < fs.length) : (turn n fs)[k]? = fs[(k + n) % fs.length]? := by
  unfold turn
  rcases Nat.lt_or_ge k (fs.length - n) with h | h
  · rw [List.getElem?_append_left (by rw [List.length_drop]; exact h), List.getElem?_drop, Nat.mod_eq_of_lt (by omega), Nat.add_comm]
  · rw [List.getElem?_append_right (by rw [List.length_drop]; exact h), List.length_drop, List.getElem?_take, if_pos (by omega)]
    congr 1
    rw [show k + n = (k - (fs.length - n)) + fs.length by omega, Nat.add_mod_right, Nat.mod_eq_of_lt (by omega)]
theorem mem_turn {n : Nat} {fs : List Fl} {f : Fl} : f ∈ turn n fs ↔ f ∈ fs := by
  unfold turn
  rw [List.mem_append]
  constructor
  · rintro (h | h)
    · exact List.mem_of_mem_drop h
    · exact List.mem_of_mem_take h
  · intro h
    rw [← List.take_append_drop n fs] at h
    exact (List.mem_append.1 h).symm
/-- The list under way: block ub (the first behind W) is the type that gets it. -/
structure TrSt (W V : World) (ts : List Fl) (v : Value) (dss : List (List Value)) : Prop where
  below : Below W.heap.size W V
  size : W.heap.size + 1 ≤ V.heap.size
  out : V.heap[W.heap.size]? = some (.cells #[.int .i64 13, .int .i64 0, .string ⟨#[]⟩, .slice none 0 0, v] 26)
  own : V.ownsRow (W.heap.size + 1) 32 8 v dss.length (flat dss)
  el : ∀ (i : Nat) (cs : List Value) (f : Fl), dss[i]? = some cs → ts[i]? = some f → FlV W (· < W.heap.size) f cs
  len : dss.length ≤ ts.length
theorem TrSt.start (W : World) (ts : List Fl) : TrSt W (W.alloc (.cells #[.int .i64 13, .int .i64 0, .string ⟨#[]⟩, .slice none 0 0, .slice none 0 0] 26)) ts (.slice none 0 0) [] :=
  ⟨(Below.refl _ _).alloc (Nat.le_refl _) _, by simp, heap_alloc_new _ _, World.ownsRow_nil _ _ _ _, fun i cs f e => by simp at e, Nat.zero_le _⟩
/-- One field more. -/
theorem TrSt.push {W V w5 w9 w10 : World} {ts : List Fl} {v : Value} {dss : List (List Value)} {g cap : Nat} {o : Obj} {f : Fl} {cs : List Value} (h : TrSt W V ts v dss) (hb5 : Below V.heap.size V w5) (ht : FlV W (· < W.heap.size) f cs) (hti : ts[dss.length]? = some f)
    (h9 : w9.ownsRow (W.heap.size + 1) 32 8 (.slice (some ⟨g, 0, none⟩) (dss.length + 1) cap) (dss.length + 1) (flat dss ++ cs)) (hg9 : (w5.alloc o).grownBy w9 v.ownBlock)
    (h10 : Ext (· = W.heap.size) w9 w10) (h10' : ∀ c, w9.heap[W.heap.size]? = some (.cells c 26) → w10.heap[W.heap.size]? = some (.cells (c.setIfInBounds 4 (.slice (some ⟨g, 0, none⟩) (dss.length + 1) cap)) 26)) :
    TrSt W w10 ts (.slice (some ⟨g, 0, none⟩) (dss.length + 1) cap) (dss ++ [cs]) := by
  have hs := h.size
  have s5 := hb5.size
  have s9 := hg9.size
  simp only [World.size_alloc] at s9
  have s10 := h10.size
  have hvl : ∀ k, v.ownBlock = some k → W.heap.size + 1 ≤ k ∧ k < V.heap.size := fun k e => h.own.lt k e
  have hvO : ∀ b, b < W.heap.size + 1 → v.ownBlock ≠ some b := fun b hb e => by have := (hvl b e).1; omega
  have k9 : ∀ b, b < V.heap.size → v.ownBlock ≠ some b → w9.heap[b]? = V.heap[b]? := fun b hb hn =>
    (hg9.block b (by simp; omega) (fun e => hn e.symm)).trans ((Below.heap_alloc w5 o b (by omega)).trans (hb5.block b hb))
  have hO9 := (k9 W.heap.size (by omega) (hvO _ (by omega))).trans h.out
  have hlt : dss.length < ts.length := (List.getElem?_eq_some_iff.1 hti).1
  refine ⟨⟨?_, ?_, ?_, by omega, fun b hb => ?_⟩, by omega, ?_, ?_, fun i cs' f' e1 e2 => ?_, by simp; omega⟩
  · exact h10.os.trans (hg9.os.trans (hb5.os.trans h.below.os))
  · exact h10.tape.trans (hg9.tape.trans (hb5.tape.trans h.below.tape))
  · exact h10.output.trans (hg9.output.trans (hb5.output.trans h.below.output))
  · exact (h10.block b (by omega) (by omega)).trans ((k9 b (by omega) (hvO b (by omega))).trans (h.below.block b hb))
  · refine (h10' _ hO9).trans ?_
    simp
  · have hg3 := (h9.lt g rfl).1
    have hg4 := (h9.lt g rfl).2
    have := ownG_kept h9 (w' := w10) fun k e => by
      have e : g = k := by simpa [Value.ownBlock] using e
      exact h10.block k (by omega) (by omega)
    simpa [flat] using this
  · rcases Nat.lt_or_ge i dss.length with hi | hi
    · rw [List.getElem?_append_left hi] at e1
      exact h.el i cs' f' e1 e2
    · rw [List.getElem?_append_right hi] at e1
      have h4 : i - dss.length = 0 := by
        have := (List.getElem?_eq_some_iff.1 e1).1
        simp at this
        omega
      rw [h4] at e1
      simp at e1
      subst e1
      obtain rfl : i = dss.length := by omega
      rw [hti] at e2
      obtain rfl := Option.some.inj e2
      exact ht
/-- The list is whole. -/
theorem TrSt.whole {W V : World} {ts : List Fl} {v : Value} {dss : List (List Value)} (h : TrSt W V ts v dss) (hl : dss.length = ts.length) : ∃ D cap, v = .slice D ts.length cap ∧ FlsV V (· < V.heap.size) ts D 0 := by
  have hsz := h.below.size
  have e2 : ∀ (i : Nat) (cs : List Value) (f : Fl), dss[i]? = some cs → ts[i]? = some f → FlV V (· < V.heap.size) f cs := fun i cs f q1 q2 => FlV.keep (fun b hb => ⟨by omega, h.below.block b hb⟩) _ _ (h.el i cs f q1 q2)
  have l2 : ∀ ws ∈ dss, ws.length = 8 := by
    intro ws hw
    obtain ⟨i, hi, rfl⟩ := List.mem_iff_getElem.1 hw
    exact (e2 i _ _ (List.getElem?_eq_getElem hi) (List.getElem?_eq_getElem (by omega : i < ts.length))).len
  rcases row_cell h.own l2 with ⟨hv, hc⟩ | ⟨g, cap, hv, hb, hg, hc⟩
  · subst hc
    have : ts = [] := List.length_eq_zero_iff.1 (by simpa using hl.symm)
    subst this
    exact ⟨none, 0, hv, trivial⟩
  · refine ⟨some ⟨g, 0, none⟩, cap, by rw [hv, hl], fls_row (ok := (· < V.heap.size)) hg ts 0 fun i t e => ?_⟩
    have hi : i < dss.length := by have := (List.getElem?_eq_some_iff.1 e).1; omega
    have hci : dss[i]? = some dss[i] := List.getElem?_eq_getElem hi
    exact ⟨dss[i], e2 i _ t hci e, fun j u e3 => by rw [Nat.zero_add]; exact hc i _ j u hci e3⟩
/-- The loops of a text, one behind the other (those within others not). -/
def loopsOf : Code → List Code
  | .loop c => [c]
  | .seq a b => loopsOf a ++ loopsOf b
  | .block _ c => loopsOf c
  | .scope c => loopsOf c
  | .cond _ a b => loopsOf a ++ loopsOf b
  | _ => []
noncomputable def body4a : Code := ((loopsOf (Tryz.f4.body.getD .skip))[0]?).getD .skip
noncomputable def body4b : Code := ((loopsOf (Tryz.f4.body.getD .skip))[1]?).getD .skip
end Go.Proofs.YtnmgocbmofbppaaGreatDoor
