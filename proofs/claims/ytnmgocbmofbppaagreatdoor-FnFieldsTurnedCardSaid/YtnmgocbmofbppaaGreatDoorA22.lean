/- structFieldInfo. -/
import Derived.Test.YtnmgocbmofbppaaGreatDoorA11
import Derived.Laws.OwnMore
import Derived.KernelRfl
import Derived.Outline
import Derived.BigGuardPart
import Derived.Deep.DeepMust
import Derived.Deep.LoopGhost
import Derived.Deep.DeepCutAuto
import Derived.Deep.CutBlock
import Derived.Deep.QuietTactic
import Derived.BigQuiet
import Derived.Lib.Hide
import Derived.WalkSpells
import Derived.Deep.Light
import Derived.Deep.RegionWith
import Derived.WalkLawsBesides
import Derived.StillTailTactics

set_option linter.unusedVariables false
set_option linter.unusedSimpArgs false

namespace Go.Proofs.YtnmgocbmofbppaaGreatDoor
open Go.RowKit

/-- The rules under way. -/
structure FB (w0 w : World) (fp i : Nat) (nm ns : ByteArray) (fl : Int) (v4 : Value) : Prop where
  below : Below w0.heap.size w0 w
  ge : w0.heap.size ≤ fp
  lt : fp < w.heap.size
  idx : ∃ ib, ib ≠ fp ∧ w.cell? ⟨fp, 0, none⟩ = some (.slice (some ⟨ib, 0, none⟩) 1 1) ∧ w.cell? ⟨ib, 0, none⟩ = some (.int .i64 i)
  c1 : w.cell? ⟨fp, 1, none⟩ = some (.string nm)
  c2 : w.cell? ⟨fp, 2, none⟩ = some (.string ns)
  c3 : w.cell? ⟨fp, 3, none⟩ = some (.int .i64 fl)
  c4 : w.cell? ⟨fp, 4, none⟩ = some v4
  nf : ∀ k, w.frozen? ⟨fp, k, none⟩ = false
section
variable {w0 w w' : World} {fp i : Nat} {nm ns : ByteArray} {fl : Int} {v4 : Value}
theorem FB.keep (h : FB w0 w fp i nm ns fl v4) (hb : Below w.heap.size w w') : FB w0 w' fp i nm ns fl v4 := by
  have hc : ∀ (a : Addr) (v : Value), w.cell? a = some v → w'.cell? a = some v := fun a v e => (World.cell?_of_block (hb.block a.block (lt_cell e))).trans e
  obtain ⟨ib, h0, h1, h2⟩ := h.idx
  exact ⟨h.below.trans (hb.mono h.below.size), h.ge, Nat.lt_of_lt_of_le h.lt hb.size, ⟨ib, h0, hc _ _ h1, hc _ _ h2⟩, hc _ _ h.c1, hc _ _ h.c2, hc _ _ h.c3, hc _ _ h.c4, fun k => (World.frozen?_of_block (hb.block fp h.lt)).trans (h.nf k)⟩
theorem FB.drew (h : FB w0 w fp i nm ns fl v4) : FB w0 w.drew fp i nm ns fl v4 := ⟨⟨h.below.os, h.below.tape, h.below.output, h.below.size, h.below.block⟩, h.ge, h.lt, h.idx, h.c1, h.c2, h.c3, h.c4, h.nf⟩
theorem set_far {w : World} {fp k j : Nat} {v u : Value} (h : w.cell? ⟨fp, j, none⟩ = some u) (hne : j ≠ k) : (w.setCell ⟨fp, k, none⟩ v).cell? ⟨fp, j, none⟩ = some u :=
  (World.cell?_setCell_other w ⟨fp, k, none⟩ ⟨fp, j, none⟩ v (fun e => by injection e with e1 e2; exact hne e2.symm)).trans h
theorem FB.pre_set (h : FB w0 w fp i nm ns fl v4) (k : Nat) (v : Value) (hk : k ≠ 0) : Below w0.heap.size w0 (w.setCell ⟨fp, k, none⟩ v) ∧ fp < (w.setCell ⟨fp, k, none⟩ v).heap.size ∧
    (∃ ib, ib ≠ fp ∧ (w.setCell ⟨fp, k, none⟩ v).cell? ⟨fp, 0, none⟩ = some (.slice (some ⟨ib, 0, none⟩) 1 1) ∧ (w.setCell ⟨fp, k, none⟩ v).cell? ⟨ib, 0, none⟩ = some (.int .i64 i)) ∧ ∀ j, (w.setCell ⟨fp, k, none⟩ v).frozen? ⟨fp, j, none⟩ = false := by
  obtain ⟨ib, h0, h1, h2⟩ := h.idx
  exact ⟨h.below.setCell h.ge v, by simpa [World.setCell] using h.lt, ⟨ib, h0, set_far h1 hk.symm, (World.cell?_of_block (Below.heap_setCell w ⟨fp, k, none⟩ v ib h0)).trans h2⟩, fun j => (World.frozen?_setCell ..).trans (h.nf j)⟩
theorem FB.set1 (h : FB w0 w fp i nm ns fl v4) (s : ByteArray) : FB w0 (w.setCell ⟨fp, 1, none⟩ (.string s)) fp i s ns fl v4 := by
  obtain ⟨h1, h2, h3, h4⟩ := h.pre_set 1 (.string s) (by decide)
  exact ⟨h1, h.ge, h2, h3, World.cell?_setCell_same _ _ _ h.c1, set_far h.c2 (by decide), set_far h.c3 (by decide), set_far h.c4 (by decide), h4⟩
theorem FB.set2 (h : FB w0 w fp i nm ns fl v4) (s : ByteArray) : FB w0 (w.setCell ⟨fp, 2, none⟩ (.string s)) fp i nm s fl v4 := by
  obtain ⟨h1, h2, h3, h4⟩ := h.pre_set 2 (.string s) (by decide)
  exact ⟨h1, h.ge, h2, h3, set_far h.c1 (by decide), World.cell?_setCell_same _ _ _ h.c2, set_far h.c3 (by decide), set_far h.c4 (by decide), h4⟩
theorem FB.set3 (h : FB w0 w fp i nm ns fl v4) (x : Int) : FB w0 (w.setCell ⟨fp, 3, none⟩ (.int .i64 x)) fp i nm ns x v4 := by
  obtain ⟨h1, h2, h3, h4⟩ := h.pre_set 3 (.int .i64 x) (by decide)
  exact ⟨h1, h.ge, h2, h3, set_far h.c1 (by decide), set_far h.c2 (by decide), World.cell?_setCell_same _ _ _ h.c3, set_far h.c4 (by decide), h4⟩
theorem FB.set4 (h : FB w0 w fp i nm ns fl v4) (v : Value) : FB w0 (w.setCell ⟨fp, 4, none⟩ v) fp i nm ns fl v := by
  obtain ⟨h1, h2, h3, h4⟩ := h.pre_set 4 v (by decide)
  exact ⟨h1, h.ge, h2, h3, set_far h.c1 (by decide), set_far h.c2 (by decide), set_far h.c3 (by decide), World.cell?_setCell_same _ _ _ h.c4, h4⟩
end
theorem FB.start (w : World) (i : Nat) (t t' : TypeId) : FB w ((w.alloc (.cells #[.int .i64 i] t)).alloc (.cells #[.slice (some ⟨w.heap.size, 0, none⟩) 1 1, .string ⟨#[]⟩, .string ⟨#[]⟩, .int .i64 0, .slice none 0 0] t')) (w.heap.size + 1) i ⟨#[]⟩ ⟨#[]⟩ 0 (.slice none 0 0) :=
  ⟨((Below.refl _ _).alloc (Nat.le_refl _) _).alloc (by simp) _, by omega, by simp, ⟨w.heap.size, by omega, by simp [go_sem], by simp [go_sem]⟩, by simp [go_sem], by simp [go_sem], by simp [go_sem], by simp [go_sem], fun k => by simp [go_sem]⟩
theorem FB.setFar {w0 w : World} {fp i : Nat} {nm ns : ByteArray} {fl : Int} {v4 : Value} (h : FB w0 w fp i nm ns fl v4) {a : Addr} (hne : fp ≠ a.block) (hge : w0.heap.size ≤ a.block) (v : Value) (hidx : ∀ ib, w.cell? ⟨fp, 0, none⟩ = some (.slice (some ⟨ib, 0, none⟩) 1 1) → ib ≠ a.block) : FB w0 (w.setCell a v) fp i nm ns fl v4 := by
  have hc : ∀ (b : Addr) (u : Value), b.block ≠ a.block → w.cell? b = some u → (w.setCell a v).cell? b = some u := fun b u hb e => (World.cell?_of_block (Below.heap_setCell w a v b.block hb)).trans e
  obtain ⟨ib, h0, h1, h2⟩ := h.idx
  exact ⟨h.below.setCell hge v, h.ge, by simpa [World.setCell] using h.lt, ⟨ib, h0, hc _ _ hne h1, hc _ _ (hidx ib h1) h2⟩, hc _ _ hne h.c1, hc _ _ hne h.c2, hc _ _ hne h.c3, hc _ _ hne h.c4, fun k => (World.frozen?_setCell ..).trans (h.nf k)⟩
theorem FB.idx_ne {w0 w w' : World} {fp i g : Nat} {nm ns : ByteArray} {fl : Int} {v4 : Value} (h : FB w0 w fp i nm ns fl v4) (hb : Below w.heap.size w w') (hg : w.heap.size ≤ g) : ∀ ib, w'.cell? ⟨fp, 0, none⟩ = some (.slice (some ⟨ib, 0, none⟩) 1 1) → ib ≠ g := by
  intro ib e
  obtain ⟨ib0, _, h1, h2⟩ := h.idx
  have e2 := (World.cell?_of_block (a := ⟨fp, 0, none⟩) (hb.block fp h.lt)).trans h1
  rw [e] at e2
  have : ib = ib0 := by simpa using e2
  have h3 := lt_cell h2
  subst this
  have h3 : ib < w.heap.size := h3
  omega
/-- Strings that a call has laid, one behind the other. -/
structure Toks (w0 w : World) (g : Nat) (l : List ByteArray) : Prop where
  ge : w0.heap.size ≤ g
  lt : g < w.heap.size
  cells : ∀ j y, l[j]? = some y → w.cell? ⟨g, j, none⟩ = some (.string y)
  nf : ∀ j, w.frozen? ⟨g, j, none⟩ = false
theorem Toks.keep {w0 w w' : World} {g : Nat} {l : List ByteArray} (h : Toks w0 w g l) (hb : w'.heap[g]? = w.heap[g]?) : Toks w0 w' g l := by
  have hlt : g < w'.heap.size := by
    rcases Nat.lt_or_ge g w'.heap.size with h1 | h1
    · exact h1
    · rw [Array.getElem?_eq_none h1, Array.getElem?_eq_getElem h.lt] at hb
      cases hb
  exact ⟨h.ge, hlt, fun j y e => (World.cell?_of_block hb).trans (h.cells j y e), fun j => (World.frozen?_of_block hb).trans (h.nf j)⟩
theorem toks_of {w0 w : World} {v : Value} {l : List ByteArray} {base : Nat} (h : w.ownsRow base 9 1 v l.length (strs l)) (hl : l ≠ []) (hb : w0.heap.size ≤ base) : ∃ g c, v = .slice (some ⟨g, 0, none⟩) l.length c ∧ Toks w0 w g l ∧ base ≤ g ∧ l.length ≤ c := by
  rcases h.2 with ⟨_, h0⟩ | ⟨g, cap, cur, hv, hbg, hg, hcap, hx⟩
  · exact absurd (List.eq_nil_of_length_eq_zero h0) hl
  · refine ⟨g, cap, hv, ⟨by omega, ?_, fun j y e => ?_, fun j => ?_⟩, hbg, ?_⟩
    · rcases Nat.lt_or_ge g w.heap.size with h1 | h1
      · exact h1
      · rw [Array.getElem?_eq_none h1] at hg; cases hg
    · subst hv
      have hj : j < l.length := (List.getElem?_eq_some_iff.1 e).1
      rw [World.ownsRow.cellAt h j (by omega)]
      simp [strs, e]
    · subst hv
      exact World.ownsRow.frozenAt h j
    · exact hcap
theorem split_ne (s sep : ByteArray) : splitOf s sep ≠ [] := by
  unfold splitOf splitN
  split <;> simp

theorem len_join : ∀ xs : List ByteArray, xs.length ≤ joinSz xs
  | [] => Nat.zero_le _
  | x :: xs => by
    have := len_join xs
    simp only [List.length_cons, joinSz]
    omega
theorem splitN_len (sep : ByteArray) (hp : 0 < sep.size) : ∀ (k : Nat) (s : ByteArray), joinSz (splitN sep k s) ≤ 101 * s.size + 100 ∧ (∀ y ∈ splitN sep k s, y.size ≤ s.size)
  | 0, s => by simp [splitN, joinSz]
  | k + 1, s => by
    unfold splitN
    cases h : cutOf s sep with
    | none => simp [joinSz]; omega
    | some p =>
      obtain ⟨a, b⟩ := p
      have hc := cut_lt h hp
      have hab : a.size + b.size + 1 ≤ s.size := by
        unfold cutOf at h
        cases hi : ix s sep 0 with
        | none => rw [hi] at h; cases h
        | some i =>
          have := ix_lt s sep _ 0 i (Nat.le_refl _) hi
          rw [hi] at h
          simp at h
          obtain ⟨rfl, rfl⟩ := h
          simp
          omega
      obtain ⟨h1, h2⟩ := splitN_len sep hp k b
      refine ⟨by simp only [joinSz]; omega, fun y hy => ?_⟩
      rcases List.mem_cons.1 hy with rfl | hy
      · omega
      · have := h2 y hy; omega
theorem split_len (s sep : ByteArray) (hp : 0 < sep.size) : joinSz (splitOf s sep) ≤ 101 * s.size + 100 ∧ (∀ y ∈ splitOf s sep, y.size ≤ s.size) := splitN_len sep hp _ _
/-- What structFieldInfo leaves. -/
def SfiPost (w : World) (r : Option Fi) (i : Nat) (e : Ending) (w' : World) : Prop := Below w.heap.size w w' ∧ ((∀ fi, r = some fi → ∃ fp, e = .returned (.tuple #[.pointer (some ⟨fp, 0, none⟩), .nilIface]) ∧ w.heap.size ≤ fp ∧ FiV w' fp fi i) ∧
      (r = none → ∃ eb s, e = .returned (.tuple #[.pointer none, .iface 154 (.pointer (some ⟨eb, 0, none⟩))]) ∧ w.heap.size ≤ eb ∧ w'.cell? ⟨eb, 0, none⟩ = some (.string s)))
theorem SfiPost.err {w w' : World} {r : Option Fi} {i : Nat} {e : Ending} {eb : Nat} {s : ByteArray} (hr : r = none) (hb : Below w.heap.size w w') (he : e = .returned (.tuple #[.pointer none, .iface 154 (.pointer (some ⟨eb, 0, none⟩))])) (hg : w.heap.size ≤ eb) (hc : w'.cell? ⟨eb, 0, none⟩ = some (.string s)) : SfiPost w r i e w' :=
  ⟨hb, fun fi h => (by rw [hr] at h; cases h), fun _ => ⟨eb, s, he, hg, hc⟩⟩
theorem SfiPost.ok {w w' : World} {r : Option Fi} {i fp : Nat} {fi : Fi} {v4 : Value} (hr : r = some fi) (h : FB w w' fp i fi.name fi.xmlns fi.flags v4) (hp : ∃ A c, v4 = .slice A fi.parents.length c ∧ ∀ j y, fi.parents[j]? = some y → ∃ g, A = some ⟨g, 0, none⟩ ∧ w'.cell? ⟨g, j, none⟩ = some (.string y)) :
    SfiPost w r i (.returned (.tuple #[.pointer (some ⟨fp, 0, none⟩), .nilIface])) w' := by
  obtain ⟨A, c, rfl, hq⟩ := hp
  obtain ⟨ib, _, h1, h2⟩ := h.idx
  refine ⟨h.below, fun fi' e => ?_, fun e => (by rw [hr] at e; cases e)⟩
  rw [hr] at e
  obtain rfl := Option.some.inj e
  exact ⟨fp, rfl, h.ge, ⟨ib, h1, h2⟩, h.c1, h.c2, h.c3, ⟨A, c, h.c4, hq⟩⟩
theorem nil_parents {w' : World} : ∃ A c, Value.slice none 0 0 = .slice A ([] : List ByteArray).length c ∧ ∀ j y, ([] : List ByteArray)[j]? = some y → ∃ g, A = some ⟨g, 0, none⟩ ∧ w'.cell? ⟨g, j, none⟩ = some (.string y) :=
  ⟨none, 0, rfl, fun j y e => by simp at e⟩
theorem below_drewN (w : World) (n : Nat) : Below w.heap.size w (w.drewN n) := ⟨rfl, rfl, rfl, Nat.le_refl _, fun _ _ => rfl⟩
theorem par_keep {w w' : World} {v4 : Value} {l : List ByteArray} (h : ∃ A c, v4 = .slice A l.length c ∧ ∀ j y, l[j]? = some y → ∃ g, A = some ⟨g, 0, none⟩ ∧ w.cell? ⟨g, j, none⟩ = some (.string y)) (hb : Below w.heap.size w w') :
    ∃ A c, v4 = .slice A l.length c ∧ ∀ j y, l[j]? = some y → ∃ g, A = some ⟨g, 0, none⟩ ∧ w'.cell? ⟨g, j, none⟩ = some (.string y) := by
  obtain ⟨A, c, h1, h2⟩ := h
  refine ⟨A, c, h1, fun j y e => ?_⟩
  obtain ⟨g, h3, h4⟩ := h2 j y e
  exact ⟨g, h3, (World.cell?_of_block (hb.block _ (lt_cell h4))).trans h4⟩
theorem sfi_none1 {tg : ByteArray → ByteArray} {lk : Lk} {name tag ns t1 : ByteArray} (h : nsOf (tg tag) = (ns, t1)) (h2 : flagsOf (name.toList == xmlNameL) t1 = none) : sfi tg lk name tag = none := by
  unfold sfi
  simp only [h, h2]
/-- Strings that are there stay short. -/
def Far (w0 w : World) (pf : Nat) (name tag : ByteArray) : Prop := w.cell? ⟨pf, 0, none⟩ = some (.string name) ∧ w.cell? ⟨pf, 1, none⟩ = some (.string tag)

set_option maxHeartbeats 64000000 in
set_option maxRecDepth 100000 in
theorem sfi_any {tg : ByteArray → ByteArray} {B : Nat} (hTg : TagC tg B) (w : World) (b pf x : Nat) (name tag : ByteArray) (emb : Bool) (i : Nat) (lk : Lk) (ht : Tabs B w) (hB : B ≤ w.heap.size) (hF : FC w pf 0 name tag x emb) (hn : name.size ≤ 2000) (htg : tag.size ≤ 2000)
    (hS : StrC w b) (hX : (name.toList == xmlNameL) = false → StrC w x ∧ LkC w x lk) :
    Calls Tryz.prog 46 #[.pointer (some ⟨b, 0, none⟩), .pointer (some ⟨pf, 0, none⟩), .int .i64 i] w (SfiPost w (sfi tg lk name tag) i) := by
  obtain ⟨hTs, hTc⟩ := hTg
  have hpf : pf < w.heap.size := lt_cell hF.c0
  have hts := hTs tag
  have HF := Lib.hid hF
  have HT := Lib.hid ht
  have HS := Lib.hid hS
  have HX := Lib.hid hX
  have HTC := Lib.hid hTc
  have ⟨f0, f1, f2, f3⟩ := hF
  clear hF ht hS hX hTc hTs
  go_enter Tryz.func46, Tryz.ntmps46
  go_upto_region 2 with fail
  have hfb := FB.start w i 3 85
  generalize (w.alloc (.cells #[.int .i64 i] 3)).alloc (.cells #[.slice (some ⟨w.heap.size, 0, none⟩) 1 1, .string ⟨#[]⟩, .string ⟨#[]⟩, .int .i64 0, .slice none 0 0] 85) = W1 at hfb ⊢
  obtain ⟨fp, hfp⟩ : ∃ fp, w.heap.size + 1 = fp := ⟨_, rfl⟩
  rw [hfp] at hfb ⊢
  clear hfp
  have hb1 := hfb.below
  have f1 : W1.cell? ⟨pf, 1, none⟩ = some (.string tag) := (World.cell?_of_block (hb1.block pf hpf)).trans f1
  have hk := HTC.out tag W1 htg (Nat.le_trans hB hb1.size) (HT.out.keep (hb1.mono hB))
  have HK := Lib.hid hk
  have HFB := Lib.hid hfb
  clear hk hfb hb1 f0 f2 f3
  obtain ⟨T, hT⟩ : ∃ T, tg tag = T := ⟨_, rfl⟩
  rw [hT] at HK hts
  obtain ⟨ns, t1, hns⟩ : ∃ ns t1, nsOf T = (ns, t1) := ⟨_, _, rfl⟩
  have hTC2 : ∀ w6, Below w.heap.size w w6 → Calls Tryz.prog 43 #[.string tag, .string ⟨#[120, 109, 108]⟩] w6 fun e w' => e = .returned (.string T) ∧ Below w6.heap.size w6 w' := fun w6 hb => by
    have := HTC.out tag w6 htg (Nat.le_trans hB hb.size) (HT.out.keep (hb.mono hB))
    rw [hT] at this
    exact this
  have HTC2 := Lib.hid hTC2
  clear hTC2
  go_wp2_with (go_at_call 43; refine HK.out.mono ?_; rintro e w2 ⟨rfl, hb2⟩; refine Hid.out ?_)
  refine Lib.hid ?_
  have hfb2 := HFB.out.keep hb2
  have HFB2 := Lib.hid hfb2
  clear HFB HK hb2 hfb2
  have hk : Calls Tryz.prog 64 #[.string T, .string ⟨#[32]⟩] w2 fun e w' => e = .returned (cutV T (cutOf T ⟨#[32]⟩)) ∧ Below w2.heap.size w2 w' := zzCut_any T ⟨#[32]⟩ (by omega) (by decide) w2
  have hcz : ns.size ≤ 6000 ∧ t1.size ≤ 6000 := by
    unfold nsOf at hns
    cases h : cutOf T ⟨#[32]⟩ with
    | none => rw [h] at hns; injection hns with e1 e2; subst e1 e2; exact ⟨by decide, by omega⟩
    | some p =>
      rw [h] at hns
      subst hns
      have := cut_lt h (by decide)
      exact ⟨by omega, by omega⟩
  have hcv : ∃ a b' ok, cutV T (cutOf T ⟨#[32]⟩) = .tuple #[.string a, .string b', .bool ok] ∧ (ok = true → ns = a ∧ t1 = b') ∧ (ok = false → ns = ⟨#[]⟩ ∧ t1 = T) := by
    unfold nsOf at hns
    cases h : cutOf T ⟨#[32]⟩ with
    | none => rw [h] at hns; injection hns with e1 e2; exact ⟨_, _, false, rfl, (fun h => nomatch h), fun _ => ⟨e1.symm, e2.symm⟩⟩
    | some p => rw [h] at hns; exact ⟨p.1, p.2, true, rfl, fun _ => by injection (show (p.1, p.2) = (ns, t1) from hns) with e1 e2; exact ⟨e1.symm, e2.symm⟩, fun h => nomatch h⟩
  obtain ⟨a, b', ok, hcv, hok1, hok2⟩ := hcv
  rw [hcv] at hk
  have HK := Lib.hid hk
  have HOK1 := Lib.hid hok1
  have HOK2 := Lib.hid hok2
  clear hk hcv hok1 hok2
  go_upto_if 37 with (go_at_call 64; refine HK.out.mono ?_; rintro e w3 ⟨rfl, hb3⟩; refine Hid.out ?_)
  refine Lib.hid ?_
  have hfb3 := HFB2.out.keep hb3
  have HFB3 := Lib.hid hfb3
  have hnf := hfb3.nf 2
  have hc2 := hfb3.c2
  clear HFB2 HK hb3 hfb3
  go_upto_if 37 with fail
  go_cut [9] from 38 to 42 (fun s9 wx => s9 = .string t1 ∧ FB w wx fp i ⟨#[]⟩ ns 0 (.slice none 0 0))
  case first =>
    cases ok with
    | true =>
      obtain ⟨rfl, rfl⟩ := HOK1.out rfl
      go_wp2_with fail
      go_meet
      exact ⟨rfl, HFB3.out.set2 _⟩
    | false =>
      obtain ⟨rfl, rfl⟩ := HOK2.out rfl
      go_wp2_with fail
      go_meet
      exact ⟨rfl, HFB3.out⟩
  case rest =>
    obtain ⟨rfl, hfb⟩ := hcut
    clear HOK1 HOK2 HFB3 hnf hc2
    obtain ⟨W2, hW2⟩ : ∃ W2, W2 = wc := ⟨_, rfl⟩
    subst hW2
    have hk := zzSplit_any t1 ⟨#[44]⟩ (by omega) (by decide) (by decide) W2
    have hk2 : Calls Tryz.prog 65 #[.string t1, .string ⟨#[44]⟩] W2 fun e w' => ∃ g c, e = .returned (.slice (some ⟨g, 0, none⟩) (splitOf t1 ⟨#[44]⟩).length c) ∧ Toks w w' g (splitOf t1 ⟨#[44]⟩) ∧ W2.heap.size ≤ g ∧ (splitOf t1 ⟨#[44]⟩).length ≤ c ∧ Below W2.heap.size W2 w' := hk.mono fun e w' ⟨v, h1, h2, h3⟩ => by
      obtain ⟨g, c, rfl, h4, h5, h6⟩ := toks_of (w0 := w) h2 (split_ne _ _) hfb.below.size
      exact ⟨g, c, h1, h4, h5, h6, h3⟩
    obtain ⟨toks, htoks⟩ : ∃ l, splitOf t1 ⟨#[44]⟩ = l := ⟨_, rfl⟩
    have hne := split_ne t1 ⟨#[44]⟩
    have htl := split_len t1 ⟨#[44]⟩ (by decide)
    rw [htoks] at hk2 hne htl
    obtain ⟨n, hnl⟩ : ∃ n, toks.length = n := ⟨_, rfl⟩
    rw [hnl] at hk2
    have hlen : 0 < n := by rw [← hnl]; exact List.length_pos_iff.2 hne
    have HK := Lib.hid hk2
    have HFB := Lib.hid hfb
    clear hk hk2 hfb
    go_wp2_with (go_at_call 65; refine HK.out.mono ?_; rintro e w3 ⟨g, c, rfl, htk, hgg, hgc, hb3⟩; refine Hid.out ?_)
    refine Lib.hid ?_
    have hfb3 := HFB.out.keep hb3
    have hnf := hfb3.nf 3
    have hc3 := hfb3.c3
    have hgfp : g ≠ fp := by have := HFB.out.lt; omega
    have HFB3 := Lib.hid hfb3
    have HTK := Lib.hid htk
    clear HFB HK hb3 hfb3 htk
    obtain ⟨xn, hxn⟩ : ∃ xn, (name.toList == [88, 77, 76, 78, 97, 109, 101]) = xn := ⟨_, rfl⟩
    obtain ⟨q1, hq1⟩ : ∃ q1, ((n : Int) == 1) = q1 := ⟨_, rfl⟩
    go_upto_if 47 with fail
    have HQ1 := Lib.hid hq1
    clear hq1
    go_cut [9] from 48 to 208 (fun s9 wx => ∃ t fl, s9 = .string t ∧ flagsOf xn t1 = some (t, fl) ∧ FB w wx fp i ⟨#[]⟩ ns fl (.slice none 0 0) ∧ Toks w wx g toks ∧ t.size ≤ 6000)
    case first =>
      as_aux_lemma =>
        obtain ⟨y, ts, rfl⟩ : ∃ y ts, toks = y :: ts := by
          cases toks with
          | nil => exact absurd rfl hne
          | cons y ts => exact ⟨y, ts, rfl⟩
        have hl2 : n ≤ ts.length + 1 := by rw [← hnl]; exact Nat.le_refl _
        have hl2' : ts.length + 1 ≤ n := by rw [← hnl]; exact Nat.le_refl _
        clear hnl
        cases q1 with
        | true =>
          have h1 : ts.length = 0 := by
            have := HQ1.out
            simp at this
            omega
          have hf : flagsOf xn t1 = some (t1, 1) := by unfold flagsOf; rw [htoks, List.eq_nil_of_length_eq_zero h1]
          clear h1
          go_wp2_with fail
          go_meet
          exact ⟨t1, 1, rfl, hf, HFB3.out.set3 1, HTK.out.keep (Below.heap_setCell _ _ _ _ hgfp), hcz.2⟩
        | false =>
          have h1 : ts.length ≠ 0 := by
            have := HQ1.out
            simp at this
            omega
          have hf : ∀ v, validOf xn (y.toList.isEmpty) (ts.foldl flagOf 0) = v → flagsOf xn t1 = if v.2 then some (y, v.1) else none := fun v hv => by
            unfold flagsOf
            rw [htoks, ← hv]
            cases ts with
            | nil => exact absurd rfl h1
            | cons a l => rfl
          have hl3 : 1 ≤ ts.length := by omega
          have g0 := HTK.out.cells 0 y rfl
          have hlj := len_join ts
          have hlt2 : ts.length ≤ 1000000 := by have := htl.1; simp only [joinSz] at this; omega
          go_wp2_with fail
          go_loopw [57] (fun s57 wr => ∃ j : Nat, s57 = .int .i64 j ∧ j ≤ ts.length ∧ FB w wr fp i ⟨#[]⟩ ns ((ts.take j).foldl flagOf 0) (.slice none 0 0) ∧ Toks w wr g (y :: ts)) (fun s57 _ => ts.length - (intOf s57).toNat)
          case atStart => exact ⟨0, rfl, Nat.zero_le _, HFB3.out, HTK.out⟩
          case round =>
            clear HFB3 HTK hnf hc3
            obtain ⟨j, rfl, hj, hfb, htk⟩ := hrel
            by_cases hlt : j < ts.length
            · obtain ⟨z, hz⟩ : ∃ z, ts[j]? = some z := ⟨_, List.getElem?_eq_getElem hlt⟩
              have g1 := htk.cells (j + 1) z (by simpa using hz)
              have g1' : wr.cell? ⟨g, 1 + j, none⟩ = some (.string z) := by rw [Nat.add_comm]; exact g1
              have hnf := hfb.nf 3
              have hc3 := hfb.c3
              have hfold : (ts.take (j + 1)).foldl flagOf 0 = flagOf ((ts.take j).foldl flagOf 0) z := by rw [List.take_add_one, hz]; simp
              generalize (ts.take j).foldl flagOf 0 = fl0 at hfb hc3 hfold
              have HFB := Lib.hid hfb
              have HTK := Lib.hid htk
              have HFO := Lib.hid hfold
              clear hfb htk hfold
              as_aux_lemma =>
                have arm : ∀ x, flagOf fl0 z = x → FB w (wr.setCell ⟨fp, 3, none⟩ (.int .i64 x)) fp i ⟨#[]⟩ ns ((ts.take (j + 1)).foldl flagOf 0) (.slice none 0 0) ∧ Toks w (wr.setCell ⟨fp, 3, none⟩ (.int .i64 x)) g (y :: ts) := fun x hx => by
                  rw [HFO.out, hx]
                  exact ⟨HFB.out.set3 x, HTK.out.keep (Below.heap_setCell _ _ _ _ hgfp)⟩
                have ARM := Lib.hid arm
                clear arm
                cases q0 : z.toList == [97, 116, 116, 114] with
                | true =>
                  have hfl : flagOf fl0 z = fOr fl0 2 := by unfold flagOf; rw [if_pos q0]
                  go_wp2_with fail
                  go_roundw
                  case rel => exact ⟨j + 1, by go_num, by omega, (ARM.out _ hfl).1, (ARM.out _ hfl).2⟩
                  case measure => simp [intOf]; omega
                | false =>
                  cases q1 : z.toList == [99, 100, 97, 116, 97] with
                  | true =>
                    have hfl : flagOf fl0 z = fOr fl0 4 := by unfold flagOf; rw [if_neg (by rw [q0]; decide), if_pos q1]
                    go_wp2_with fail
                    go_roundw
                    case rel => exact ⟨j + 1, by go_num, by omega, (ARM.out _ hfl).1, (ARM.out _ hfl).2⟩
                    case measure => simp [intOf]; omega
                  | false =>
                    cases q2 : z.toList == [99, 104, 97, 114, 100, 97, 116, 97] with
                    | true =>
                      have hfl : flagOf fl0 z = fOr fl0 8 := by unfold flagOf; rw [if_neg (by rw [q0]; decide), if_neg (by rw [q1]; decide), if_pos q2]
                      go_wp2_with fail
                      go_roundw
                      case rel => exact ⟨j + 1, by go_num, by omega, (ARM.out _ hfl).1, (ARM.out _ hfl).2⟩
                      case measure => simp [intOf]; omega
                    | false =>
                      cases q3 : z.toList == [105, 110, 110, 101, 114, 120, 109, 108] with
                      | true =>
                        have hfl : flagOf fl0 z = fOr fl0 16 := by unfold flagOf; rw [if_neg (by rw [q0]; decide), if_neg (by rw [q1]; decide), if_neg (by rw [q2]; decide), if_pos q3]
                        go_wp2_with fail
                        go_roundw
                        case rel => exact ⟨j + 1, by go_num, by omega, (ARM.out _ hfl).1, (ARM.out _ hfl).2⟩
                        case measure => simp [intOf]; omega
                      | false =>
                        cases q4 : z.toList == [99, 111, 109, 109, 101, 110, 116] with
                        | true =>
                          have hfl : flagOf fl0 z = fOr fl0 32 := by unfold flagOf; rw [if_neg (by rw [q0]; decide), if_neg (by rw [q1]; decide), if_neg (by rw [q2]; decide), if_neg (by rw [q3]; decide), if_pos q4]
                          go_wp2_with fail
                          go_roundw
                          case rel => exact ⟨j + 1, by go_num, by omega, (ARM.out _ hfl).1, (ARM.out _ hfl).2⟩
                          case measure => simp [intOf]; omega
                        | false =>
                          cases q5 : z.toList == [97, 110, 121] with
                          | true =>
                            have hfl : flagOf fl0 z = fOr fl0 64 := by unfold flagOf; rw [if_neg (by rw [q0]; decide), if_neg (by rw [q1]; decide), if_neg (by rw [q2]; decide), if_neg (by rw [q3]; decide), if_neg (by rw [q4]; decide), if_pos q5]
                            go_wp2_with fail
                            go_roundw
                            case rel => exact ⟨j + 1, by go_num, by omega, (ARM.out _ hfl).1, (ARM.out _ hfl).2⟩
                            case measure => simp [intOf]; omega
                          | false =>
                            cases q6 : z.toList == [111, 109, 105, 116, 101, 109, 112, 116, 121] with
                            | true =>
                              have hfl : flagOf fl0 z = fOr fl0 128 := by unfold flagOf; rw [if_neg (by rw [q0]; decide), if_neg (by rw [q1]; decide), if_neg (by rw [q2]; decide), if_neg (by rw [q3]; decide), if_neg (by rw [q4]; decide), if_neg (by rw [q5]; decide), if_pos q6]
                              go_wp2_with fail
                              go_roundw
                              case rel => exact ⟨j + 1, by go_num, by omega, (ARM.out _ hfl).1, (ARM.out _ hfl).2⟩
                              case measure => simp [intOf]; omega
                            | false =>
                              have hfl : flagOf fl0 z = fl0 := by unfold flagOf; rw [if_neg (by rw [q0]; decide), if_neg (by rw [q1]; decide), if_neg (by rw [q2]; decide), if_neg (by rw [q3]; decide), if_neg (by rw [q4]; decide), if_neg (by rw [q5]; decide), if_neg (by rw [q6]; decide)]
                              go_wp2_with fail
                              go_roundw
                              case rel => exact ⟨j + 1, by go_num, by omega, by rw [HFO.out, hfl]; exact HFB.out, HTK.out⟩
                              case measure => simp [intOf]; omega
            · obtain rfl : j = ts.length := by omega
              rw [List.take_length] at hfb
              have hqe : ¬ (ts.length < n - 1) := by omega
              have hqe2 : decide (ts.length < n - 1) = false := decide_eq_false hqe
              have hnf := hfb.nf 3
              have hc3 := hfb.c3
              generalize ts.foldl flagOf 0 = fl0 at hfb hc3 hf
              obtain ⟨m, hm⟩ : ∃ m, bits .and .i64 fl0 127 = m := ⟨_, rfl⟩
              have HFB := Lib.hid hfb
              have HTK := Lib.hid htk
              have HFL := Lib.hid hf
              clear hfb htk hf
              have f0 : wr.cell? ⟨pf, 0, none⟩ = some (.string name) := (World.cell?_of_block (HFB.out.below.block pf hpf)).trans HF.out.c0
              obtain ⟨te, hte⟩ : ∃ te, y.toList.isEmpty = te := ⟨_, rfl⟩
              rw [hte] at HFL
              have hmo : modeOk xn te fl0 = if m = 0 then (fOr fl0 1, true) else if m = 2 ∨ m = 4 ∨ m = 8 ∨ m = 16 ∨ m = 32 ∨ m = 64 ∨ m = 66 then (fl0, !(xn || (!te && decide (m ≠ 2)))) else (fl0, false) := by
                unfold modeOk fAnd
                rw [hm]
              have HMO := Lib.hid hmo
              clear hmo
              go_upto_block 3 with fail
              go_cut [16] from 132 to 161 (fun s16 wx => ∃ f1 v1, s16 = .bool v1 ∧ modeOk xn te fl0 = (f1, v1) ∧ FB w wx fp i ⟨#[]⟩ ns f1 (.slice none 0 0) ∧ Toks w wx g (y :: ts))
              case first =>
                as_aux_lemma =>
                  by_cases h0 : m = 0
                  · have hr := HMO.out
                    rw [if_pos h0] at hr
                    go_wp2_with fail
                    go_meet
                    exact ⟨_, _, rfl, hr, HFB.out.set3 _, HTK.out.keep (Below.heap_setCell _ _ _ _ hgfp)⟩
                  · by_cases h1 : m = 2 ∨ m = 4 ∨ m = 8 ∨ m = 16 ∨ m = 32 ∨ m = 64 ∨ m = 66
                    · have hr := HMO.out
                      rw [if_neg h0, if_pos h1] at hr
                      have arm : ∀ v, (!(xn || (!te && decide (m ≠ 2)))) = v → ∃ f1 v1, Value.bool v = .bool v1 ∧ modeOk xn te fl0 = (f1, v1) ∧ FB w wr fp i ⟨#[]⟩ ns f1 (.slice none 0 0) ∧ Toks w wr g (y :: ts) := fun v hv => by
                        subst hv
                        exact ⟨_, _, rfl, hr, HFB.out, HTK.out⟩
                      have ARM := Lib.hid arm
                      clear arm hr h0
                      cases xn with
                      | true =>
                        rcases h1 with rfl | rfl | rfl | rfl | rfl | rfl | rfl <;> (go_wp2_with fail; go_meet; exact ARM.out _ rfl)
                      | false =>
                        cases te with
                        | true => rcases h1 with rfl | rfl | rfl | rfl | rfl | rfl | rfl <;> (go_wp2_with fail; go_meet; exact ARM.out _ rfl)
                        | false => rcases h1 with rfl | rfl | rfl | rfl | rfl | rfl | rfl <;> (go_wp2_with fail; go_meet; exact ARM.out _ rfl)
                    · have hr := HMO.out
                      rw [if_neg h0, if_neg h1] at hr
                      have k2 : ¬ m = 2 := fun e => h1 (by omega)
                      have k4 : ¬ m = 4 := fun e => h1 (by omega)
                      have k8 : ¬ m = 8 := fun e => h1 (by omega)
                      have k16 : ¬ m = 16 := fun e => h1 (by omega)
                      have k32 : ¬ m = 32 := fun e => h1 (by omega)
                      have k64 : ¬ m = 64 := fun e => h1 (by omega)
                      have k66 : ¬ m = 66 := fun e => h1 (by omega)
                      have HR := Lib.hid hr
                      clear h1 hr
                      go_wp2_with fail
                      go_meet
                      exact ⟨_, _, rfl, HR.out, HFB.out, HTK.out⟩
              case rest =>
                obtain ⟨f1, v1, rfl, hmo, hfb, htk⟩ := hcut
                obtain ⟨W4, hW4⟩ : ∃ W4, W4 = wc := ⟨_, rfl⟩
                subst hW4
                clear HFB HTK hnf hc3 hm HMO f0
                have hnf := hfb.nf 3
                have hc3 := hfb.c3
                have HFB := Lib.hid hfb
                have HTK := Lib.hid htk
                have HMO := Lib.hid hmo
                clear hfb htk hmo
                obtain ⟨m, hm⟩ : ∃ m, bits .and .i64 f1 127 = m := ⟨_, rfl⟩
                go_upto_if 167 with fail
                go_cut [] from 168 to 174 (fun wx => FB w wx fp i ⟨#[]⟩ ns (anyOf f1) (.slice none 0 0) ∧ Toks w wx g (y :: ts))
                case first =>
                  by_cases h64 : m = 64
                  · have hr : anyOf f1 = fOr f1 1 := by unfold anyOf fAnd; rw [hm, if_pos h64]
                    go_wp2_with fail
                    go_meet
                    rw [hr]
                    exact ⟨HFB.out.set3 _, HTK.out.keep (Below.heap_setCell _ _ _ _ hgfp)⟩
                  · have hr : anyOf f1 = f1 := by unfold anyOf fAnd; rw [hm, if_neg h64]
                    go_wp2_with fail
                    go_meet
                    rw [hr]
                    exact ⟨HFB.out, HTK.out⟩
                case rest =>
                  obtain ⟨hfb, htk⟩ := hcut
                  obtain ⟨W5, hW5⟩ : ∃ W5, W5 = wc := ⟨_, rfl⟩
                  subst hW5
                  clear HFB HTK hnf hc3 hm
                  obtain ⟨f2, hf2⟩ : ∃ f2, anyOf f1 = f2 := ⟨_, rfl⟩
                  rw [hf2] at hfb
                  have hc3 := hfb.c3
                  have HFB := Lib.hid hfb
                  have HTK := Lib.hid htk
                  clear hfb htk
                  have hvo : validOf xn te fl0 = (f2, v1 && !(decide (bits .and .i64 f2 128 ≠ 0) && decide (bits .and .i64 f2 3 = 0))) := by
                    unfold validOf
                    rw [HMO.out]
                    simp only [hf2]
                  have HV := Lib.hid hvo
                  clear hvo
                  obtain ⟨m1, hm1⟩ : ∃ m, bits .and .i64 f2 128 = m := ⟨_, rfl⟩
                  obtain ⟨m2, hm2⟩ : ∃ m, bits .and .i64 f2 3 = m := ⟨_, rfl⟩
                  rw [hm1, hm2] at HV
                  go_upto_region 46 with fail
                  go_cut [188] from 175 to 187 (fun s188 wx => s188 = .bool (decide (m1 ≠ 0) && decide (m2 = 0)) ∧ W5 = wx)
                  case first =>
                    by_cases h1 : m1 = 0
                    · subst h1
                      go_wp2_with fail
                      go_meet
                      exact ⟨by simp, rfl⟩
                    · by_cases h2 : m2 = 0
                      · subst h2
                        go_wp2_with fail
                        go_meet
                        exact ⟨by simp [h1], rfl⟩
                      · go_wp2_with fail
                        go_meet
                        exact ⟨by simp [h1, h2], rfl⟩
                  case rest =>
                    obtain ⟨rfl, rfl⟩ := hcut
                    generalize (decide (m1 ≠ 0) && decide (m2 = 0)) = q at HV ⊢
                    clear hm1 hm2
                    go_upto_if 188 with fail
                    go_cut [16] from 189 to 189 (fun s16 wx => s16 = .bool (v1 && !q) ∧ W5 = wx)
                    case first =>
                      cases q with
                      | true =>
                        go_wp2_with fail
                        go_meet
                        exact ⟨by simp, rfl⟩
                      | false =>
                        go_wp2_with fail
                        go_meet
                        exact ⟨by simp, rfl⟩
                    case rest =>
                      obtain ⟨rfl, rfl⟩ := hcut
                      generalize (v1 && !q) = v at HV ⊢
                      have hfo := HFL.out _ HV.out
                      cases v with
                      | true =>
                        go_wp2_with fail
                        go_meet
                        exact ⟨y, f2, rfl, hfo, HFB.out, HTK.out, Nat.le_trans (htl.2 y (by simp)) hcz.2⟩
                      | false =>
                        have hnone : sfi tg lk name tag = none := sfi_none1 (ns := ns) (t1 := t1) (by rw [hT]; exact hns) (by rw [show (name.toList == xmlNameL) = xn from hxn]; simpa using hfo)
                        have HNO := Lib.hid hnone
                        clear hfo hnone
                        have hbl := HFB.out.below
                        have hW5 := hbl.size
                        have hFar : ∀ W, Below w.heap.size w W → W.cell? ⟨pf, 0, none⟩ = some (.string name) ∧ W.cell? ⟨pf, 1, none⟩ = some (.string tag) := fun W hb => ⟨(World.cell?_of_block (hb.block pf hpf)).trans HF.out.c0, (World.cell?_of_block (hb.block pf hpf)).trans HF.out.c1⟩
                        have c0 : W5.drew.cell? ⟨pf, 0, none⟩ = some (.string name) := (hFar W5 hbl).1
                        have c1 : W5.drew.cell? ⟨pf, 1, none⟩ = some (.string tag) := (hFar W5 hbl).2
                        have HFAR := Lib.hid hFar
                        have hbd : Below w.heap.size w W5.drew := ⟨hbl.os, hbl.tape, hbl.output, hbl.size, hbl.block⟩
                        have HBD := Lib.hid hbd
                        clear hbl hFar hbd
                        have q1 : ¬ (9223372036854775807 < 26 + name.size) := by omega
                        have q2 : ¬ (9223372036854775807 < 26 + name.size + 9) := by omega
                        go_upto_region 49 with fail
                        go_region_held3 (fun w' => w'.cell? ⟨pf, 0, none⟩ = some (.string name) ∧ w'.cell? ⟨pf, 1, none⟩ = some (.string tag))
                          (first | exact ⟨c0, c1⟩ | exact ⟨l0, l1⟩ | exact ⟨j0, j1⟩ | exact ⟨k0, k1⟩ | exact ⟨m0, m1⟩)
                          (first
                          | (go_at_call 66; refine (errNew_any _ _).mono ?_; rintro e w8 ⟨rfl, hb8, hc8⟩; have HC8 := Lib.hid hc8; have HB8 := Lib.hid hb8; have l0 := (HFAR.out w8 (HB7.out.trans (hb8.mono HB7.out.size))).1; have l1 := (HFAR.out w8 (HB7.out.trans (hb8.mono HB7.out.size))).2; clear hc8 hb8)
                          | (go_at_call 48; refine HQ7.out.mono ?_; rintro e w7 ⟨r3, rfl, hr3, hb7⟩; have j0 := (HFAR.out w7 (HB6.out.trans (hb7.mono HB6.out.size))).1; have j1 := (HFAR.out w7 (HB6.out.trans (hb7.mono HB6.out.size))).2; have HB7 := Lib.hid (HB6.out.trans (hb7.mono HB6.out.size)); have q5 : ¬ (9223372036854775807 < 26 + name.size + 9 + r.size + 2 + r3.size) := (by omega); clear hb7)
                          | (go_at_call 43; refine HT6.out.mono ?_; rintro e w6' ⟨rfl, hb6⟩; have HB6 := Lib.hid (HB5.out.trans (hb6.mono HB5.out.size)); have k0 := (HFAR.out w6' HB6.out).1; have k1 := (HFAR.out w6' HB6.out).2; obtain ⟨TT, hTT⟩ := HT.out.keep (HB6.out.mono hB); have HQ7 := Lib.hid (Quote_any TT T (by omega) w6' (hTT w6' (Below.refl _ _)).1 (hTT w6' (Below.refl _ _)).2.1); clear hb6 hTT)
                          | (go_at_call 27; refine (HS.out W5.drew HBD.out).mono ?_; rintro e w6 ⟨r, rfl, hr, hb6⟩; have HB5 := Lib.hid (HBD.out.trans (hb6.mono HBD.out.size)); have m0 := (HFAR.out w6 HB5.out).1; have m1 := (HFAR.out w6 HB5.out).2; have q3 : ¬ (9223372036854775807 < 26 + name.size + 9 + r.size) := (by omega); have q4 : ¬ (9223372036854775807 < 26 + name.size + 9 + r.size + 2) := (by omega); have HT6 := Lib.hid (HTC2.out w6 HB5.out); clear hb6))
                        all_goals
                          go_wp2_with fail
                          go_ret2
                          exact SfiPost.err HNO.out (HB7.out.trans (HB8.out.mono HB7.out.size)) rfl HB7.out.size HC8.out
    case rest =>
      obtain ⟨t, fl, rfl, hfo, hfb, htk, htz⟩ := hcut
      obtain ⟨W6, hW6⟩ : ∃ W6, W6 = wc := ⟨_, rfl⟩
      subst hW6
      clear HFB3 HTK HQ1 hnf hc3
      have hc2 := hfb.c2
      have hbl := hfb.below
      have hFar : ∀ W, Below w.heap.size w W → W.cell? ⟨pf, 0, none⟩ = some (.string name) ∧ W.cell? ⟨pf, 1, none⟩ = some (.string tag) := fun W hb => ⟨(World.cell?_of_block (hb.block pf hpf)).trans HF.out.c0, (World.cell?_of_block (hb.block pf hpf)).trans HF.out.c1⟩
      have HFAR := Lib.hid hFar
      have HFB := Lib.hid hfb
      have HTK := Lib.hid htk
      have HFO := Lib.hid hfo
      have HBL := Lib.hid hbl
      obtain ⟨qn, hqn⟩ : ∃ qn, ns.toList.isEmpty = qn := ⟨_, rfl⟩
      obtain ⟨te, hte⟩ : ∃ te, t.toList.isEmpty = te := ⟨_, rfl⟩
      have hse : sfi tg lk name tag = sfi2 lk name ns t fl xn := sfi_eq (by rw [hT]; exact hns) hxn hfo
      have HSE := Lib.hid hse
      clear hfb htk hfo hbl hFar hse
      go_upto_region 50 with fail
      go_cut [217] from 209 to 216 (fun s217 wx => s217 = .bool (!qn && te) ∧ W6 = wx)
      case first =>
        cases qn with
        | true =>
          go_wp2_with fail
          go_meet
          exact ⟨rfl, rfl⟩
        | false =>
          go_wp2_with fail
          go_meet
          exact ⟨by simp, rfl⟩
      case rest =>
        obtain ⟨rfl, rfl⟩ := hcut
        obtain ⟨qe, hqe⟩ : ∃ qe, (!qn && te) = qe := ⟨_, rfl⟩
        rw [hqe]
        have HQE := Lib.hid hqe
        clear hqe
        cases qe with
        | true =>
          as_aux_lemma =>
            have hnone : sfi tg lk name tag = none := by
              rw [HSE.out]
              simp only [sfi2, hqn, hte, HQE.out, if_true]
            have HNO := Lib.hid hnone
            clear hnone
            have hW6 := HBL.out.size
            have c0 : W6.drew.cell? ⟨pf, 0, none⟩ = some (.string name) := (HFAR.out W6 HBL.out).1
            have c1 : W6.drew.cell? ⟨pf, 1, none⟩ = some (.string tag) := (HFAR.out W6 HBL.out).2
            have hbd : Below w.heap.size w W6.drew := ⟨HBL.out.os, HBL.out.tape, HBL.out.output, HBL.out.size, HBL.out.block⟩
            have HBD := Lib.hid hbd
            clear hbd
            have q1 : ¬ (9223372036854775807 < 37 + name.size) := by omega
            have q2 : ¬ (9223372036854775807 < 37 + name.size + 9) := by omega
            go_upto_region 51 with fail
            go_region_held3 (fun w' => w'.cell? ⟨pf, 0, none⟩ = some (.string name) ∧ w'.cell? ⟨pf, 1, none⟩ = some (.string tag))
              (first | exact ⟨c0, c1⟩ | exact ⟨l0, l1⟩ | exact ⟨j0, j1⟩ | exact ⟨k0, k1⟩ | exact ⟨m0, m1⟩)
              (first
              | (go_at_call 66; refine (errNew_any _ _).mono ?_; rintro e w8 ⟨rfl, hb8, hc8⟩; have HC8 := Lib.hid hc8; have HB8 := Lib.hid hb8; have l0 := (HFAR.out w8 (HB7.out.trans (hb8.mono HB7.out.size))).1; have l1 := (HFAR.out w8 (HB7.out.trans (hb8.mono HB7.out.size))).2; clear hc8 hb8)
              | (go_at_call 48; refine HQ7.out.mono ?_; rintro e w7 ⟨r3, rfl, hr3, hb7⟩; have j0 := (HFAR.out w7 (HB6.out.trans (hb7.mono HB6.out.size))).1; have j1 := (HFAR.out w7 (HB6.out.trans (hb7.mono HB6.out.size))).2; have HB7 := Lib.hid (HB6.out.trans (hb7.mono HB6.out.size)); have q5 : ¬ (9223372036854775807 < 37 + name.size + 9 + r.size + 2 + r3.size) := (by omega); clear hb7)
              | (go_at_call 43; refine HT6.out.mono ?_; rintro e w6' ⟨rfl, hb6⟩; have HB6 := Lib.hid (HB5.out.trans (hb6.mono HB5.out.size)); have k0 := (HFAR.out w6' HB6.out).1; have k1 := (HFAR.out w6' HB6.out).2; obtain ⟨TT, hTT⟩ := HT.out.keep (HB6.out.mono hB); have HQ7 := Lib.hid (Quote_any TT T (by omega) w6' (hTT w6' (Below.refl _ _)).1 (hTT w6' (Below.refl _ _)).2.1); clear hb6 hTT)
              | (go_at_call 27; refine (HS.out W6.drew HBD.out).mono ?_; rintro e w6 ⟨r, rfl, hr, hb6⟩; have HB5 := Lib.hid (HBD.out.trans (hb6.mono HBD.out.size)); have m0 := (HFAR.out w6 HB5.out).1; have m1 := (HFAR.out w6 HB5.out).2; have q3 : ¬ (9223372036854775807 < 37 + name.size + 9 + r.size) := (by omega); have q4 : ¬ (9223372036854775807 < 37 + name.size + 9 + r.size + 2) := (by omega); have HT6 := Lib.hid (HTC2.out w6 HB5.out); clear hb6))
            all_goals
              go_wp2_with fail
              go_ret2
              exact SfiPost.err HNO.out (HB7.out.trans (HB8.out.mono HB7.out.size)) rfl HB7.out.size HC8.out
        | false =>
          have f0 := (HFAR.out W6 HBL.out).1
          have hc1 := HFB.out.c1
          have hn1 := HFB.out.nf 1
          cases xn with
          | true =>
            as_aux_lemma =>
              have hsome : sfi tg lk name tag = some ⟨t, ns, fl, []⟩ := by
                rw [HSE.out]
                simp only [sfi2, hqn, hte, HQE.out]
                rfl
              have HSO := Lib.hid hsome
              clear hsome
              go_wp2_with fail
              go_ret2
              have h1 := HFB.out.set1 t
              exact SfiPost.ok (fi := ⟨t, ns, fl, []⟩) HSO.out h1 nil_parents
          | false =>
            obtain ⟨hSx, hLx⟩ := HX.out hxn
            have f2 : W6.cell? ⟨pf, 2, none⟩ = some (.pointer (some ⟨x, 0, none⟩)) := (World.cell?_of_block (HBL.out.block pf hpf)).trans HF.out.c2
            have HSX := Lib.hid hSx
            have HLX := Lib.hid hLx
            clear hSx hLx
            cases te with
            | true =>
              as_aux_lemma =>
                have hlk := HLX.out W6 HBL.out
                have hsome : sfi tg lk name tag = lkFi lk name ns fl := by
                  rw [HSE.out]
                  simp only [sfi2, hqn, hte, HQE.out]
                  rfl
                cases lk with
                | none =>
                  have hk : Calls Tryz.prog 67 #[.pointer (some ⟨x, 0, none⟩)] W6 fun e w2 => Below W6.heap.size W6 w2 ∧ e = .returned (.pointer none) := hlk
                  have HK := Lib.hid hk
                  have HSO := Lib.hid hsome
                  clear hk hlk hsome
                  go_wp2_with (go_at_call 67; refine HK.out.mono ?_; rintro e w7 ⟨hb7, rfl⟩; refine Hid.out ?_)
                  refine Lib.hid ?_
                  have hfb7 := HFB.out.keep hb7
                  have f0 : w7.cell? ⟨pf, 0, none⟩ = some (.string name) := (HFAR.out w7 hfb7.below).1
                  have hc1 := hfb7.c1
                  have hn1 := hfb7.nf 1
                  have HFB7 := Lib.hid hfb7
                  clear hfb7 hb7 hc2 f2
                  go_wp2_with fail
                  go_ret2
                  exact SfiPost.ok (fi := ⟨name, ns, fl, []⟩) HSO.out (HFB7.out.set1 name) nil_parents
                | some p =>
                  obtain ⟨ns', nm⟩ := p
                  have hk : Calls Tryz.prog 67 #[.pointer (some ⟨x, 0, none⟩)] W6 fun e w2 => Below W6.heap.size W6 w2 ∧ ∃ fp, e = .returned (.pointer (some ⟨fp, 0, none⟩)) ∧ W6.heap.size ≤ fp ∧ w2.cell? ⟨fp, 1, none⟩ = some (.string nm) ∧ w2.cell? ⟨fp, 2, none⟩ = some (.string ns') ∧ nm.size ≤ 10000 := hlk
                  have HK := Lib.hid hk
                  have HSO := Lib.hid hsome
                  clear hk hlk hsome
                  go_wp2_with (go_at_call 67; refine HK.out.mono ?_; rintro e w7 ⟨hb7, gp, rfl, hgp, hg1, hg2, _⟩; refine Hid.out ?_)
                  refine Lib.hid ?_
                  have hfb7 := HFB.out.keep hb7
                  have hne : gp ≠ fp := by have := HFB.out.lt; omega
                  have hne' : fp ≠ gp := fun e => hne e.symm
                  have HFB7 := Lib.hid hfb7
                  have p1 := hfb7.c1
                  have p2 := hfb7.c2
                  have pn1 := hfb7.nf 1
                  have pn2 := hfb7.nf 2
                  have hg1 : w7.drew.cell? ⟨gp, 1, none⟩ = some (.string nm) := hg1
                  have hg2 : w7.drew.cell? ⟨gp, 2, none⟩ = some (.string ns') := hg2
                  have hc1 : w7.drew.cell? ⟨fp, 1, none⟩ = _ := hfb7.c1
                  have hc2 : w7.drew.cell? ⟨fp, 2, none⟩ = _ := hfb7.c2
                  have hn1 : w7.drew.frozen? ⟨fp, 1, none⟩ = false := hfb7.nf 1
                  have hn2 : w7.drew.frozen? ⟨fp, 2, none⟩ = false := hfb7.nf 2
                  clear hfb7 hb7 f2
                  go_upto_region 58 with fail
                  go_region
                  all_goals
                    go_wp2_with fail
                    go_ret2
                    exact SfiPost.ok (fi := ⟨nm, ns', fl, []⟩) HSO.out ((HFB7.out.set2 ns').set1 nm).drew nil_parents
            | false =>
              have hsome : sfi tg lk name tag = sfiPath lk ns fl (pathOf name t) := by
                rw [HSE.out]
                simp only [sfi2, hqn, hte, HQE.out]
                rfl
              have HSO := Lib.hid hsome
              clear hsome
              have hk := zzSplit_any t ⟨#[62]⟩ (by omega) (by decide) (by decide) W6
              have hk2 : Calls Tryz.prog 65 #[.string t, .string ⟨#[62]⟩] W6 fun e w' => ∃ g c, e = .returned (.slice (some ⟨g, 0, none⟩) (splitOf t ⟨#[62]⟩).length c) ∧ Toks w w' g (splitOf t ⟨#[62]⟩) ∧ W6.heap.size ≤ g ∧ (splitOf t ⟨#[62]⟩).length ≤ c ∧ Below W6.heap.size W6 w' := hk.mono fun e w' ⟨v, h1, h2, h3⟩ => by
                obtain ⟨g, c, rfl, h4, h5, h6⟩ := toks_of (w0 := w) h2 (split_ne _ _) HFB.out.below.size
                exact ⟨g, c, h1, h4, h5, h6, h3⟩
              obtain ⟨p0, rest, hsp⟩ : ∃ p0 rest, splitOf t ⟨#[62]⟩ = p0 :: rest := by
                cases hs : splitOf t ⟨#[62]⟩ with
                | nil => exact absurd hs (split_ne _ _)
                | cons a l => exact ⟨a, l, rfl⟩
              have hpo : pathOf name t = (if p0.toList.isEmpty then name else p0) :: rest := by unfold pathOf; rw [hsp]
              have hslen := split_len t ⟨#[62]⟩ (by decide)
              rw [hsp] at hk2 hslen
              have hrl := len_join rest
              have hrl2 : rest.length ≤ 1000000 := by have := hslen.1; simp only [joinSz] at this; omega
              have hpsz : ∀ y ∈ pathOf name t, y.size ≤ 8000 := fun y hy => by
                rw [hpo] at hy
                rcases List.mem_cons.1 hy with rfl | hy
                · split
                  · omega
                  · have := hslen.2 p0 (by simp); omega
                · have := hslen.2 y (by simp [hy]); omega
              have hn2 : (p0 :: rest).length = rest.length + 1 := rfl
              rw [hn2] at hk2
              obtain ⟨n2, hn2'⟩ : ∃ n2, rest.length + 1 = n2 := ⟨_, rfl⟩
              rw [hn2'] at hk2
              have hpl : (pathOf name t).length ≤ n2 := by rw [hpo, ← hn2']; exact Nat.le_refl _
              have hpl' : n2 ≤ (pathOf name t).length := by rw [hpo, ← hn2']; exact Nat.le_refl _
              have hn20 : 0 < n2 := by omega
              have hn21 : n2 ≤ 1000001 := by omega
              have HK := Lib.hid hk2
              have HPO := Lib.hid hpo
              have HPZ := Lib.hid hpsz
              clear hk hk2 hslen hsp hrl hrl2 hn2 hn2' hpo hpsz
              go_wp2_with (go_at_call 65; refine HK.out.mono ?_; rintro e w7 ⟨g2, c2, rfl, htk2, hgg2, hgc2, hb7⟩; refine Hid.out ?_)
              refine Lib.hid ?_
              have hfb7 := HFB.out.keep hb7
              have hgfp2 : g2 ≠ fp := by have := HFB.out.lt; omega
              have hgg : g2 ≠ g := by have := HTK.out.lt; omega
              have htk7 := HTK.out.keep (hb7.block g HTK.out.lt)
              have f0 : w7.cell? ⟨pf, 0, none⟩ = some (.string name) := (HFAR.out w7 hfb7.below).1
              have g20 := htk2.cells 0 p0 rfl
              have gn0 := htk2.nf 0
              have hib := HFB.out.idx_ne hb7 hgg2
              have HIB := Lib.hid hib
              have HFB7 := Lib.hid hfb7
              have HTK7 := Lib.hid htk7
              have HTP := Lib.hid htk2
              clear hfb7 htk7 htk2 hb7 hib HK HTK HFB hc1 hn1 hc2 f2
              obtain ⟨pe, hpe⟩ : ∃ pe, p0.toList.isEmpty = pe := ⟨_, rfl⟩
              rw [hpe] at HPO
              go_upto_if 282 with fail
              go_cut [] from 283 to 288 (fun wx => FB w wx fp i ⟨#[]⟩ ns fl (.slice none 0 0) ∧ Toks w wx g2 (pathOf name t) ∧ Toks w wx g toks)
              case first =>
                as_aux_lemma =>
                  cases pe with
                  | true =>
                    have hpo : pathOf name t = name :: rest := HPO.out
                    go_wp2_with fail
                    go_meet
                    rw [hpo]
                    refine ⟨HFB7.out.setFar (a := ⟨g2, 0, none⟩) hgfp2.symm HTP.out.ge _ HIB.out, ⟨HTP.out.ge, by simpa [World.setCell] using HTP.out.lt, fun j y e => ?_, fun j => (World.frozen?_setCell ..).trans (HTP.out.nf j)⟩, HTK7.out.keep (Below.heap_setCell _ _ _ _ hgg.symm)⟩
                    cases j with
                    | zero =>
                      simp at e
                      subst e
                      exact World.cell?_setCell_same _ _ _ g20
                    | succ j => exact set_far (HTP.out.cells (j + 1) y (by simpa using e)) (by omega)
                  | false =>
                    have hpo : pathOf name t = p0 :: rest := HPO.out
                    go_wp2_with fail
                    go_meet
                    rw [hpo]
                    exact ⟨HFB7.out, HTP.out, HTK7.out⟩
              case rest =>
                obtain ⟨hfb, htp, htk⟩ := hcut
                obtain ⟨W8, hW8⟩ : ∃ W8, W8 = wc := ⟨_, rfl⟩
                subst hW8
                clear HFB7 HTK7 HTP HPO HIB f0 g20 gn0
                obtain ⟨ps, hps⟩ : ∃ ps, pathOf name t = ps := ⟨_, rfl⟩
                rw [hps] at htp hpl hpl' HPZ HSO
                clear hps
                obtain ⟨k, rfl⟩ : ∃ k, n2 = k + 1 := ⟨n2 - 1, by omega⟩
                obtain ⟨last, hlast⟩ : ∃ last, ps[k]? = some last := ⟨_, List.getElem?_eq_getElem (by omega)⟩
                have hgl : ps.getLast? = some last := by rw [List.getLast?_eq_getElem?, show ps.length - 1 = k by omega]; exact hlast
                have hlz : last.size ≤ 8000 := HPZ.out last (List.mem_of_getElem? hlast)
                have gl := htp.cells k last hlast
                have hc1 := hfb.c1
                have hn1 := hfb.nf 1
                have hbl := hfb.below
                have HBL8 := Lib.hid hbl
                have HFB := Lib.hid hfb
                have HTP := Lib.hid htp
                have HTK := Lib.hid htk
                have HGL := Lib.hid hgl
                have HLA := Lib.hid hlast
                clear hfb htp htk hgl hlast hbl HBL
                obtain ⟨le, hle⟩ : ∃ le, last.toList.isEmpty = le := ⟨_, rfl⟩
                have hsp : sfiPath lk ns fl ps = if le = true then none else if (decide (1 < ps.length) && decide (bits .and .i64 fl 1 = 0)) = true then none else if (decide (bits .and .i64 fl 1 ≠ 0) && lkBad lk last) = true then none else some ⟨last, ns, fl, ps.dropLast⟩ := by
                  unfold sfiPath
                  simp only [HGL.out, hle]
                have HSP := Lib.hid (HSO.out.trans hsp)
                clear hsp HSO
                cases le with
                | true =>
                  as_aux_lemma =>
                    have c0 : W8.drew.cell? ⟨pf, 0, none⟩ = some (.string name) := (HFAR.out W8 HBL8.out).1
                    have hbd : Below w.heap.size w W8.drew := ⟨HBL8.out.os, HBL8.out.tape, HBL8.out.output, HBL8.out.size, HBL8.out.block⟩
                    have HBD := Lib.hid hbd
                    clear hbd hc1 hn1
                    have q1 : ¬ (9223372036854775807 < 27 + name.size) := by omega
                    have q2 : ¬ (9223372036854775807 < 27 + name.size + 9) := by omega
                    go_upto_region 65 with fail
                    go_region_held3 (fun w' => w'.cell? ⟨pf, 0, none⟩ = some (.string name))
                      (first | exact c0 | exact l0 | exact m0)
                      (first
                      | (go_at_call 66; refine (errNew_any _ _).mono ?_; rintro e w9 ⟨rfl, hb8, hc8⟩; have HC8 := Lib.hid hc8; have HB8 := Lib.hid hb8; have l0 := (HFAR.out w9 (HB5.out.trans (hb8.mono HB5.out.size))).1; clear hc8 hb8)
                      | (go_at_call 27; refine (HS.out W8.drew HBD.out).mono ?_; rintro e w6 ⟨r, rfl, hr, hb6⟩; have HB5 := Lib.hid (HBD.out.trans (hb6.mono HBD.out.size)); have m0 := (HFAR.out w6 HB5.out).1; have q3 : ¬ (9223372036854775807 < 27 + name.size + 9 + r.size) := (by omega); clear hb6))
                    all_goals
                      go_wp2_with fail
                      go_ret2
                      exact SfiPost.err HSP.out (HB5.out.trans (HB8.out.mono HB5.out.size)) rfl HB5.out.size HC8.out
                | false =>
                  have hgg2 := HTP.out.ge
                  have hfb9 := HFB.out.set1 last
                  have htp9 := HTP.out.keep (Below.heap_setCell W8 ⟨fp, 1, none⟩ (.string last) g2 hgfp2)
                  have htk9 := HTK.out.keep (Below.heap_setCell W8 ⟨fp, 1, none⟩ (.string last) g hgfp)
                  have htok : (toks.length = 1 → fl = 1) := fun h1 => by
                    have := HFO.out
                    unfold flagsOf at this
                    rw [htoks] at this
                    obtain ⟨y, rfl⟩ : ∃ y, toks = [y] := List.length_eq_one_iff.1 h1
                    simp only [Option.some.injEq, Prod.mk.injEq] at this
                    exact this.2.symm
                  have HTO := Lib.hid htok
                  clear htok
                  go_upto_if 317 with fail
                  generalize W8.setCell ⟨fp, 1, none⟩ (.string last) = W9 at hfb9 htp9 htk9 ⊢
                  have hc3 := hfb9.c3
                  have hc4 := hfb9.c4
                  have hn4 := hfb9.nf 4
                  have hbl9 := hfb9.below
                  have HFB9 := Lib.hid hfb9
                  have HTP9 := Lib.hid htp9
                  have HTK9 := Lib.hid htk9
                  have HBL9 := Lib.hid hbl9
                  clear hfb9 htp9 htk9 hbl9 hc1 hn1 HFB HTP HTK gl HBL8
                  obtain ⟨m3, hm3⟩ : ∃ m, bits .and .i64 fl 1 = m := ⟨_, rfl⟩
                  rw [hm3] at HSP
                  go_cut [] from 318 to 340 (fun wx => ∃ v4, FB w wx fp i last ns fl v4 ∧ (decide (1 < ps.length) && decide (m3 = 0)) = false ∧ ∃ A c, v4 = .slice A ps.dropLast.length c ∧ ∀ j y, ps.dropLast[j]? = some y → ∃ g, A = some ⟨g, 0, none⟩ ∧ wx.cell? ⟨g, j, none⟩ = some (.string y))
                  case first =>
                    as_aux_lemma =>
                      by_cases hk0 : k = 0
                      · have hd : (decide (1 < ps.length) && decide (m3 = 0)) = false := by simp; omega
                        have hdl : ps.dropLast.length = 0 := by rw [List.length_dropLast]; omega
                        go_wp2_with fail
                        go_meet
                        refine ⟨_, HFB9.out, hd, none, 0, by rw [hdl], fun j y e => ?_⟩
                        have := (List.getElem?_eq_some_iff.1 e).1
                        omega
                      · by_cases hm0 : m3 = 0
                        · subst hm0
                          have hno : sfi tg lk name tag = none := by
                            rw [HSP.out, if_neg (by decide), if_pos (by simp; omega)]
                          have HNO := Lib.hid hno
                          have hn2 : 2 ≤ n := by
                            have h1 : toks.length ≠ 1 := fun e => by
                              rw [HTO.out e] at hm3
                              revert hm3
                              decide
                            omega
                          clear hno
                          have htt : joinSz toks.tail ≤ 700000 := by
                            have h1 := htl.1
                            cases toks with
                            | nil => simp [joinSz]
                            | cons a l => simp only [joinSz] at h1; simp only [List.tail_cons]; omega
                          have hj := zzJoin_any toks.tail (some ⟨g, 1, none⟩) (c - 1) ⟨#[44]⟩ (by decide) (by omega) W9 (fun j x e => ⟨g, 1, rfl, by
                            rw [Nat.add_comm]
                            exact HTK9.out.cells (j + 1) x (by simpa using e)⟩)
                          rw [List.length_tail, hnl] at hj
                          have HJ := Lib.hid hj
                          clear hj hc4 hn4
                          go_wp2_with (first
                            | (go_at_call 66; refine (errNew_any _ _).mono ?_; rintro e w9 ⟨rfl, hb8, hc8⟩; have HC8 := Lib.hid hc8; have HB8 := Lib.hid hb8; clear hc8 hb8)
                            | (go_at_call 68; refine HJ.out.mono ?_; rintro e w2 ⟨r, rfl, hr, rfl⟩))
                          go_ret2
                          exact SfiPost.err HNO.out (HBL9.out.trans (HB8.out.mono HBL9.out.size)) rfl HBL9.out.size HC8.out
                        · have hd : (decide (1 < ps.length) && decide (m3 = 0)) = false := by simp [hm0]
                          have hdl : ps.dropLast.length = k := by rw [List.length_dropLast]; omega
                          go_wp2_with fail
                          go_meet
                          refine ⟨_, HFB9.out.set4 _, hd, some ⟨g2, 0, none⟩, c2, by rw [hdl], fun j y e => ⟨g2, rfl, ?_⟩⟩
                          have hj : j < ps.dropLast.length := (List.getElem?_eq_some_iff.1 e).1
                          have e2 : ps[j]? = some y := by rw [← e, List.getElem?_dropLast, if_pos (by omega)]
                          exact (World.cell?_of_block (Below.heap_setCell W9 ⟨fp, 4, none⟩ _ g2 hgfp2)).trans (HTP9.out.cells j y e2)
                  case rest =>
                    as_aux_lemma =>
                      obtain ⟨v4, hfb, hd, hpar⟩ := hcut
                      obtain ⟨W10, hW10⟩ : ∃ W10, W10 = wc := ⟨_, rfl⟩
                      subst hW10
                      clear HFB9 HTP9 HTK9 HBL9 hc3 hc4 hn4
                      have hsp : sfi tg lk name tag = if (decide (m3 ≠ 0) && lkBad lk last) = true then none else some ⟨last, ns, fl, ps.dropLast⟩ := by
                        rw [HSP.out, if_neg (by decide), if_neg (by rw [hd]; decide)]
                      have HSP2 := Lib.hid hsp
                      have hc3 := hfb.c3
                      have HFB := Lib.hid hfb
                      have HPA := Lib.hid hpar
                      have hbl := hfb.below
                      have HBL := Lib.hid hbl
                      have f2 : W10.cell? ⟨pf, 2, none⟩ = some (.pointer (some ⟨x, 0, none⟩)) := (World.cell?_of_block (hbl.block pf hpf)).trans HF.out.c2
                      clear hsp hd HSP hfb hpar hbl
                      by_cases hm0 : m3 = 0
                      · have hso : sfi tg lk name tag = some ⟨last, ns, fl, ps.dropLast⟩ := by rw [HSP2.out, if_neg (by rw [decide_eq_false (fun h => h hm0)]; simp)]
                        have HSO := Lib.hid hso
                        clear hso
                        go_wp2_with fail
                        go_ret2
                        exact SfiPost.ok (fi := ⟨last, ns, fl, ps.dropLast⟩) HSO.out HFB.out HPA.out
                      · have hsp3 : sfi tg lk name tag = if lkBad lk last = true then none else some ⟨last, ns, fl, ps.dropLast⟩ := by rw [HSP2.out, decide_eq_true (show m3 ≠ 0 from hm0), Bool.true_and]
                        have HSP3 := Lib.hid hsp3
                        have hlk := HLX.out W10 HBL.out
                        clear hsp3 HSP2
                        cases lk with
                        | none =>
                          have hk : Calls Tryz.prog 67 #[.pointer (some ⟨x, 0, none⟩)] W10 fun e w2 => Below W10.heap.size W10 w2 ∧ e = .returned (.pointer none) := hlk
                          have HK := Lib.hid hk
                          clear hk hlk
                          go_wp2_with (go_at_call 67; refine HK.out.mono ?_; rintro e w11 ⟨hb11, rfl⟩; refine Hid.out ?_)
                          refine Lib.hid ?_
                          have hfb11 := HFB.out.keep hb11
                          have hpa11 := par_keep HPA.out hb11
                          have hq1 := hfb11.c1
                          have HFB11 := Lib.hid hfb11
                          have HPA11 := Lib.hid hpa11
                          clear hfb11 hpa11 hb11
                          go_upto_region 74 with fail
                          go_quiet (fail)
                          go_wp2_with fail
                          go_ret2
                          exact SfiPost.ok (fi := ⟨last, ns, fl, ps.dropLast⟩) HSP3.out (HFB11.out.keep (below_drewN _ _)) (par_keep HPA11.out (below_drewN _ _))
                        | some p =>
                          obtain ⟨ns', nm⟩ := p
                          have hk : Calls Tryz.prog 67 #[.pointer (some ⟨x, 0, none⟩)] W10 fun e w2 => Below W10.heap.size W10 w2 ∧ ∃ fp, e = .returned (.pointer (some ⟨fp, 0, none⟩)) ∧ W10.heap.size ≤ fp ∧ w2.cell? ⟨fp, 1, none⟩ = some (.string nm) ∧ w2.cell? ⟨fp, 2, none⟩ = some (.string ns') ∧ nm.size ≤ 10000 := hlk
                          have HK := Lib.hid hk
                          clear hk hlk
                          go_wp2_with (go_at_call 67; refine HK.out.mono ?_; rintro e w11 ⟨hb11, gp, rfl, hgp, hg1, hg2, hnz⟩; refine Hid.out ?_)
                          refine Lib.hid ?_
                          have hfb11 := HFB.out.keep hb11
                          have hpa11 := par_keep HPA.out hb11
                          have p1 := hfb11.c1
                          have p1' : w11.drew.cell? ⟨fp, 1, none⟩ = some (.string last) := hfb11.c1
                          have hg1' : w11.drew.cell? ⟨gp, 1, none⟩ = some (.string nm) := hg1
                          have HFB11 := Lib.hid hfb11
                          have HPA11 := Lib.hid hpa11
                          have HB11 := Lib.hid hfb11.below
                          clear hfb11 hpa11 hb11
                          go_upto_region 74 with fail
                          cases hbad : nm.toList == last.toList with
                          | true =>
                            have hso : sfi tg (some (ns', nm)) name tag = some ⟨last, ns, fl, ps.dropLast⟩ := by rw [HSP3.out, if_neg (by rw [show lkBad (some (ns', nm)) last = !(nm.toList == last.toList) from rfl, hbad]; decide)]
                            have HSO := Lib.hid hso
                            clear hso
                            go_quiet (fail)
                            go_wp2_with fail
                            go_ret2
                            exact SfiPost.ok (fi := ⟨last, ns, fl, ps.dropLast⟩) HSO.out (HFB11.out.keep (below_drewN _ _)) (par_keep HPA11.out (below_drewN _ _))
                          | false =>
                            have hso : sfi tg (some (ns', nm)) name tag = none := by rw [HSP3.out, if_pos (by rw [show lkBad (some (ns', nm)) last = !(nm.toList == last.toList) from rfl, hbad]; decide)]
                            have HNO := Lib.hid hso
                            clear hso
                            go_quiet (fail)
                            have hbN := below_drewN w11 nq
                            have hb12 := HB11.out.trans (hbN.mono HB11.out.size)
                            have hc12 : (w11.drewN nq).cell? ⟨fp, 1, none⟩ = some (.string last) := p1
                            have hd12 : (w11.drewN nq).cell? ⟨gp, 1, none⟩ = some (.string nm) := hg1
                            have hfl12 : fp < (w11.drewN nq).heap.size := lt_cell hc12
                            have hgl12 : gp < (w11.drewN nq).heap.size := lt_cell hd12
                            go_upto_region 75 with fail
                            generalize w11.drewN nq = W12 at hb12 hc12 hd12 hfl12 hgl12 ⊢
                            have hAll : ∀ W, Below W12.heap.size W12 W → W.cell? ⟨fp, 1, none⟩ = some (.string last) ∧ W.cell? ⟨pf, 0, none⟩ = some (.string name) ∧ W.cell? ⟨gp, 1, none⟩ = some (.string nm) ∧ Below w.heap.size w W := fun W hb =>
                              ⟨(World.cell?_of_block (hb.block fp hfl12)).trans hc12, (HFAR.out W (hb12.trans (hb.mono hb12.size))).1, (World.cell?_of_block (hb.block gp hgl12)).trans hd12, hb12.trans (hb.mono hb12.size)⟩
                            have hTb : ∀ W, Below w.heap.size w W → ∃ TT, Lib.PrintTabsAt 9 10 11 12 TT W ∧ Lib.Utf8Tabs 6 7 W := fun W hb => by
                              obtain ⟨TT, hTT⟩ := HT.out.keep (hb.mono hB)
                              exact ⟨TT, (hTT W (Below.refl _ _)).1, (hTT W (Below.refl _ _)).2.1⟩
                            have hbd : Below W12.heap.size W12 W12.drew := ⟨rfl, rfl, rfl, Nat.le_refl _, fun _ _ => rfl⟩
                            have HALL := Lib.hid hAll
                            have HTB := Lib.hid hTb
                            have HBD := Lib.hid hbd
                            obtain ⟨c0, c1, c2', hbw0⟩ := hAll W12.drew hbd
                            obtain ⟨TT0, hTT0⟩ := hTb W12.drew hbw0
                            have HQ1' := Lib.hid (Quote_any TT0 last (by omega) W12.drew hTT0.1 hTT0.2)
                            clear hAll hTb hbd hTT0 hbN hg1 hg1' hg2 p1 p1' f2 hc3 hbw0
                            go_region_held3 (fun w' => w'.cell? ⟨fp, 1, none⟩ = some (.string last) ∧ w'.cell? ⟨pf, 0, none⟩ = some (.string name) ∧ w'.cell? ⟨gp, 1, none⟩ = some (.string nm))
                              (first | exact ⟨c0, c1, c2'⟩ | exact ⟨y0, y1, y2⟩ | exact ⟨x0, x1, x2⟩ | exact ⟨l0, l1, l2⟩ | exact ⟨k0, k1, k2⟩ | exact ⟨j0, j1, j2⟩)
                              (first
                              | (go_at_call 66; refine (errNew_any _ _).mono ?_; rintro e v6 ⟨rfl, hb8, hc8⟩; have HC8 := Lib.hid hc8; have HB8 := Lib.hid hb8; obtain ⟨y0, y1, y2, _⟩ := HALL.out v6 (HV4.out.trans (hb8.mono HV4.out.size)); clear hc8 hb8)
                              | (go_at_call 27; refine HX2.out.mono ?_; rintro e v4 ⟨r4, rfl, hr4, hb⟩; have HV4 := Lib.hid (HV3.out.trans (hb.mono HV3.out.size)); obtain ⟨x0, x1, x2, _⟩ := HALL.out v4 HV4.out; have z9 : ¬ (9223372036854775807 < 10 + r1.size + 11 + r2.size + 1 + name.size + 21 + r3.size + 4 + r4.size) := (by omega); have z10 : ¬ (9223372036854775807 < 10 + r1.size + 11 + r2.size + 1 + name.size + 21 + r3.size + 4 + r4.size + 8) := (by omega); clear hb)
                              | (go_at_call 48; refine HQ2.out.mono ?_; rintro e v3 ⟨r3, rfl, hr3, hb⟩; have HV3 := Lib.hid (HV2.out.trans (hb.mono HV2.out.size)); obtain ⟨l0, l1, l2, hbw⟩ := HALL.out v3 HV3.out; have HX2 := Lib.hid (HSX.out v3 hbw); have z7 : ¬ (9223372036854775807 < 10 + r1.size + 11 + r2.size + 1 + name.size + 21 + r3.size) := (by omega); have z8 : ¬ (9223372036854775807 < 10 + r1.size + 11 + r2.size + 1 + name.size + 21 + r3.size + 4) := (by omega); clear hb hbw)
                              | (go_at_call 27; refine HX1.out.mono ?_; rintro e v2 ⟨r2, rfl, hr2, hb⟩; have HV2 := Lib.hid (HV1.out.trans (hb.mono HV1.out.size)); obtain ⟨k0, k1, k2, hbw⟩ := HALL.out v2 HV2.out; obtain ⟨TT2, hTT2⟩ := HTB.out v2 hbw; have HQ2 := Lib.hid (Quote_any TT2 nm (by omega) v2 hTT2.1 hTT2.2); have z3 : ¬ (9223372036854775807 < 10 + r1.size + 11 + r2.size) := (by omega); have z4 : ¬ (9223372036854775807 < 10 + r1.size + 11 + r2.size + 1) := (by omega); have z5 : ¬ (9223372036854775807 < 10 + r1.size + 11 + r2.size + 1 + name.size) := (by omega); have z6 : ¬ (9223372036854775807 < 10 + r1.size + 11 + r2.size + 1 + name.size + 21) := (by omega); clear hb hbw hTT2)
                              | (go_at_call 48; refine HQ1'.out.mono ?_; rintro e v1 ⟨r1, rfl, hr1, hb⟩; have HV1 := Lib.hid (HBD.out.trans (hb.mono HBD.out.size)); obtain ⟨j0, j1, j2, hbw⟩ := HALL.out v1 HV1.out; have HX1 := Lib.hid (HS.out v1 hbw); have z1 : ¬ (9223372036854775807 < 10 + r1.size) := (by omega); have z2 : ¬ (9223372036854775807 < 10 + r1.size + 11) := (by omega); clear hb hbw))
                            all_goals
                              go_wp2_with fail
                              go_ret2
                              have hV5 := HV4.out.trans (HB8.out.mono HV4.out.size)
                              obtain ⟨_, _, _, hbw⟩ := HALL.out _ hV5
                              exact SfiPost.err HNO.out hbw rfl (Nat.le_trans (HALL.out _ HV4.out).2.2.2.size (Nat.le_refl _)) HC8.out
end Go.Proofs.YtnmgocbmofbppaaGreatDoor
