/- freshTypes: a copy of a list of named types. The plain law of adding: no two of a type's fields conflict; what does not conflict is added unchanged. What getTypeInfo is to say: plain. Plain: what getTypeInfo says has no conflicts; embedded structs are of some depth; a struct that embeds one struct alone. Plain: where ways are few, embedded structs are of some depth. A type's rules, laid down: how they lie in memory, and what turns nothing of them. Plain. info: what is told of a field. addFieldInfo: plain laws of what it does to the list of fields, and of their cells. -/
import Derived.Test.YtnmgocbmofbppaaGreatDoorA24
import Derived.Test.YtnmgocbmofbppaaGreatDoorA23
import Derived.Test.YtnmgocbmofbppaaGreatDoorA13
import Derived.Deep.RegionHeldLaw
import Derived.Deep.RegionHeld3
import Derived.WalkMore
import Derived.KernelRfl
import Derived.Outline
import Derived.BigGuardPart
import Derived.Deep.DeepMust
import Derived.Deep.LoopGhost
import Derived.Deep.DeepCutAuto
import Derived.Deep.CutBlock
import Derived.Deep.QuietTactic
import Derived.BigQuiet
import Derived.Lib.Hide
import Derived.WalkSpells
import Derived.Deep.Light
import Derived.Deep.RegionWith
import Derived.WalkLawsBesides
import Derived.StillTailTactics
import Derived.Laws.CopyOwn

set_option linter.unusedVariables false
set_option linter.unusedSimpArgs false

namespace Go.Proofs.YtnmgocbmofbppaaGreatDoor
open Go.RowKit

/-- A named type's cells. -/
def NdE (w : World) (ok : Nat → Prop) (p : ByteArray × Ty) (cs : List Value) : Prop := ∃ ds, cs = .string p.1 :: ds ∧ p.1.size ≤ big ∧ TyV w ok p.2 ds
theorem NdE.len {w : World} {ok : Nat → Prop} {p : ByteArray × Ty} {cs : List Value} (h : NdE w ok p cs) : cs.length = 6 := by
  obtain ⟨ds, rfl, _, h⟩ := h
  simp [h.len]
theorem NdE.keep {w w' : World} {ok ok' : Nat → Prop} {p : ByteArray × Ty} {cs : List Value} (hk : ∀ b, ok b → ok' b ∧ w'.heap[b]? = w.heap[b]?) (h : NdE w ok p cs) : NdE w' ok' p cs := by
  obtain ⟨ds, h1, h2, h3⟩ := h
  exact ⟨ds, h1, h2, TyV.keep hk _ _ h3⟩
/-- The copy under way. -/
structure NdSt (w wx : World) (l : AL Ty) (v : Value) (css : List (List Value)) : Prop where
  below : Below w.heap.size w wx
  own : wx.ownsRow w.heap.size 49 6 v css.length (flat css)
  el : ∀ (i : Nat) (cs : List Value) (p : ByteArray × Ty), css[i]? = some cs → l[i]? = some p → NdE wx (fun b => w.heap.size ≤ b ∧ b < wx.heap.size ∧ v.ownBlock ≠ some b) p cs
theorem NdSt.push {w V w5 w9 : World} {l : AL Ty} {v : Value} {css : List (List Value)} {g cap : Nat} {o : Obj} {p : ByteArray × Ty} {cs : List Value} (h : NdSt w V l v css) (hb5 : Below V.heap.size V w5) (ht : NdE w5 (fun b => V.heap.size ≤ b ∧ b < w5.heap.size) p cs) (hti : l[css.length]? = some p)
    (h9 : w9.ownsRow w.heap.size 49 6 (.slice (some ⟨g, 0, none⟩) (css.length + 1) cap) (css.length + 1) (flat css ++ cs)) (hg9 : (w5.alloc o).grownBy w9 v.ownBlock) (hat : v.ownBlock = some g ∨ g = (w5.alloc o).heap.size) :
    NdSt w w9 l (.slice (some ⟨g, 0, none⟩) (css.length + 1) cap) (css ++ [cs]) := by
  have s0 := h.below.size
  have s5 := hb5.size
  have s9 := hg9.size
  simp only [World.size_alloc] at s9
  have hvl : ∀ k, v.ownBlock = some k → w.heap.size ≤ k ∧ k < V.heap.size := fun k e => h.own.lt k e
  have k9 : ∀ b, b < V.heap.size → v.ownBlock ≠ some b → w9.heap[b]? = V.heap[b]? := fun b hb hn =>
    (hg9.block b (by simp; omega) (fun e => hn e.symm)).trans ((Below.heap_alloc w5 o b (by omega)).trans (hb5.block b hb))
  have k95 : ∀ b, b < w5.heap.size → v.ownBlock ≠ some b → w9.heap[b]? = w5.heap[b]? := fun b hb hn => (hg9.block b (by simp; omega) (fun e => hn e.symm)).trans (Below.heap_alloc w5 o b hb)
  have hgn : ∀ b, b < V.heap.size → v.ownBlock ≠ some b → g ≠ b := fun b hb hn => by
    rcases hat with e | e
    · exact fun e2 => hn (by rw [e, e2])
    · simp at e; omega
  refine ⟨⟨hg9.os.trans (hb5.os.trans h.below.os), hg9.tape.trans (hb5.tape.trans h.below.tape), hg9.output.trans (hb5.output.trans h.below.output), by omega, fun b hb => (k9 b (by omega) (fun e => by have := (hvl b e).1; omega)).trans (h.below.block b hb)⟩, by simpa [flat] using h9, fun i cs' p' e1 e2 => ?_⟩
  rcases Nat.lt_or_ge i css.length with hi | hi
  · rw [List.getElem?_append_left hi] at e1
    refine NdE.keep (fun b ⟨q1, q2, q3⟩ => ⟨⟨q1, by omega, fun e => ?_⟩, k9 b q2 q3⟩) (h.el i cs' p' e1 e2)
    have e : g = b := by simpa [Value.ownBlock] using e
    exact hgn b q2 q3 e
  · rw [List.getElem?_append_right hi] at e1
    have h4 : i - css.length = 0 := by
      have := (List.getElem?_eq_some_iff.1 e1).1
      simp at this
      omega
    rw [h4] at e1
    simp at e1
    subst e1
    obtain rfl : i = css.length := by omega
    rw [hti] at e2
    obtain rfl := Option.some.inj e2
    refine NdE.keep (fun b ⟨q1, q2⟩ => ⟨⟨by omega, by omega, fun e => ?_⟩, k95 b q2 (fun e => by have := (hvl b e).2; omega)⟩) ht
    have e : g = b := by simpa [Value.ownBlock] using e
    rcases hat with e3 | e3
    · have := (hvl g e3).2; omega
    · simp at e3; omega
theorem nds_row {w : World} {ok : Nat → Prop} {g : Nat} (hg : ok g) : ∀ (l : AL Ty) (k : Nat), (∀ (i : Nat) (p : ByteArray × Ty), l[i]? = some p → ∃ cs, NdE w ok p cs ∧ ∀ j v, cs[j]? = some v → w.cell? ⟨g, (k + i) * 6 + j, none⟩ = some v) → NdV w ok l (some ⟨g, 0, none⟩) k
  | [], _, _ => trivial
  | t :: ts, k, h => by
    obtain ⟨cs, ⟨ds, rfl, h1, h1'⟩, h2⟩ := h 0 t rfl
    exact ⟨⟨g, 0, ds, rfl, hg, h1, h1', fun j v e => by simpa using h2 j v e⟩, nds_row hg ts (k + 1) fun i t' e => by
      obtain ⟨cs, h1, h2⟩ := h (i + 1) t' (by simpa using e)
      exact ⟨cs, h1, fun j v e => by rw [show k + 1 + i = k + (i + 1) by omega]; exact h2 j v e⟩⟩
theorem NdSt.whole {w wx : World} {l : AL Ty} {v : Value} {css : List (List Value)} (h : NdSt w wx l v css) (h1 : css.length = l.length) : ∃ A cap, v = .slice A l.length cap ∧ NdV wx (fun b => w.heap.size ≤ b ∧ b < wx.heap.size) l A 0 := by
  have e1 : ∀ (i : Nat) (cs : List Value) (p : ByteArray × Ty), css[i]? = some cs → l[i]? = some p → NdE wx (fun b => w.heap.size ≤ b ∧ b < wx.heap.size) p cs := fun i cs t q1 q2 => NdE.keep (fun b ⟨z1, z2, _⟩ => ⟨⟨z1, z2⟩, rfl⟩) (h.el i cs t q1 q2)
  have l1 : ∀ ws ∈ css, ws.length = 6 := by
    intro ws hw
    obtain ⟨i, hi, rfl⟩ := List.mem_iff_getElem.1 hw
    exact (e1 i _ _ (List.getElem?_eq_getElem hi) (List.getElem?_eq_getElem (by omega : i < l.length))).len
  rcases row_cell h.own l1 with ⟨hv, hc⟩ | ⟨g, cap, hv, hb, hg, hc⟩
  · subst hc
    have : l = [] := List.length_eq_zero_iff.1 (by simpa using h1.symm)
    subst this
    exact ⟨none, 0, hv, trivial⟩
  · refine ⟨some ⟨g, 0, none⟩, cap, by rw [hv, h1], nds_row ⟨hb, hg⟩ l 0 fun i t e => ?_⟩
    have hi : i < css.length := by have := (List.getElem?_eq_some_iff.1 e).1; omega
    have hci : css[i]? = some css[i] := List.getElem?_eq_getElem hi
    exact ⟨css[i], e1 i _ t hci e, fun j u e3 => by rw [Nat.zero_add]; exact hc i _ j u hci e3⟩
theorem q_info49 : (Tryz.prog.info? 49).map (fun i => (i.zero, i.size, i.bytes)) = some (some (.agg #[.string ⟨#[]⟩, .int .i64 0, .int .i64 0, .string ⟨#[]⟩, .slice none 0 0, .slice none 0 0]), 6, 96) := by kernel_rfl
set_option maxHeartbeats 4000000 in
set_option maxRecDepth 100000 in
theorem freshs_any (l : AL Ty) (A : Option Addr) (ca : Nat) (w : World) (hl : NdV w (· < w.heap.size) l A 0) (hs : ∀ p ∈ l, p.2.sz ≤ 2000) (hlen : l.length ≤ 1000000) :
    Calls Tryz.prog 17 #[.slice A l.length ca] w fun e w' => ∃ A' cap, e = .returned (.slice A' l.length cap) ∧ Below w.heap.size w w' ∧ NdV w' (fun b => w.heap.size ≤ b ∧ b < w'.heap.size) l A' 0 := by
  have HL := Lib.hid hl
  have HSZ := Lib.hid hs
  clear hl hs
  go_enter Tryz.func17, Tryz.ntmps17
  go_wp2_with fail
  go_loopg [3, 4] l.length (fun gk s3 s4 wx => ∃ (j : Nat) (css : List (List Value)), s4 = .int .i64 j ∧ j ≤ l.length ∧ gk = l.length - j ∧ css.length = j ∧ NdSt w wx l s3 css)
  case atStart => exact ⟨0, [], rfl, Nat.zero_le _, rfl, rfl, Below.refl _ _, World.ownsRow_nil _ _ _ _, fun i cs p e => by simp at e⟩
  case round =>
    obtain ⟨j, css, rfl, hj, rfl, hcl, hst⟩ := hrel
    obtain ⟨V, hV⟩ : ∃ V, V = wr := ⟨_, rfl⟩
    subst hV
    have HS := Lib.hid hst
    have HCL := Lib.hid hcl
    have hsV := hst.below.size
    clear hst hcl
    by_cases hlt : j < l.length
    · obtain ⟨p, hp⟩ : ∃ p, l[j]? = some p := ⟨_, List.getElem?_eq_getElem hlt⟩
      obtain ⟨b, off, cs, rfl, hbw, hps, htv, hce⟩ := NdV.get l A 0 j p HL.out hp
      obtain ⟨A', ca', B', cb', rfl, _⟩ := htv.open_
      rw [Nat.zero_add] at hce
      have hbV : V.heap[b]? = w.heap[b]? := HS.out.below.block b hbw
      have e0 : V.drew.cell? ⟨b, off + j * 6, none⟩ = some (.string p.1) := (World.cell?_of_block hbV).trans (hce 0 _ rfl)
      have e1 : V.drew.cell? ⟨b, off + j * 6 + 1, none⟩ = some (.int .i64 p.2.kind) := (World.cell?_of_block hbV).trans (hce 1 _ rfl)
      have e2 : V.drew.cell? ⟨b, off + j * 6 + 2, none⟩ = some (.int .i64 p.2.n) := (World.cell?_of_block hbV).trans (hce 2 _ rfl)
      have e3 : V.drew.cell? ⟨b, off + j * 6 + 3, none⟩ = some (.string p.2.s) := (World.cell?_of_block hbV).trans (hce 3 _ rfl)
      have e4 : V.drew.cell? ⟨b, off + j * 6 + 4, none⟩ = some (.slice A' p.2.of.length ca') := (World.cell?_of_block hbV).trans (hce 4 _ rfl)
      have e5 : V.drew.cell? ⟨b, off + j * 6 + 5, none⟩ = some (.slice B' p.2.fields.length cb') := (World.cell?_of_block hbV).trans (hce 5 _ rfl)
      have hj0 : (0 : Int) ≤ (j : Int) := by omega
      have hj1 : (j : Int) < (l.length : Int) := by omega
      have hcall := fresh_any 2000 p.2 (HSZ.out p (List.mem_of_getElem? hp)) (by omega) V.drew _ (TyV.keep (w' := V.drew) (fun b hb => ⟨by have := HS.out.below.size; show b < V.heap.size; omega, HS.out.below.block b hb⟩) _ _ htv)
      have HC := Lib.hid hcall
      have HPE := Lib.hid hp
      have HPS := Lib.hid hps
      have hbVl : b < V.heap.size := by omega
      have HVL := Lib.hid fun g (e : u3.ownBlock = some g) => (HS.out.own.lt g e).1
      clear hcall hp hps htv hce hbV
      obtain ⟨i0, hi0, hz0, hz1, hz2⟩ := info_parts q_info49
      go_upto_region 5 with fail
      go_region_held3 (fun w' => w'.cell? ⟨b, off + j * 6, none⟩ = some (.string p.1) ∧ w'.cell? ⟨b, off + j * 6 + 1, none⟩ = some (.int .i64 p.2.kind) ∧ w'.cell? ⟨b, off + j * 6 + 2, none⟩ = some (.int .i64 p.2.n) ∧ w'.cell? ⟨b, off + j * 6 + 3, none⟩ = some (.string p.2.s) ∧ w'.cell? ⟨b, off + j * 6 + 4, none⟩ = some (.slice A' p.2.of.length ca') ∧ w'.cell? ⟨b, off + j * 6 + 5, none⟩ = some (.slice B' p.2.fields.length cb'))
        (first
          | with_reducible exact ⟨n0_, n1_, n2_, n3_, n4_, n5_⟩
          | with_reducible exact ⟨l0 _, l1 _, l2 _, l3 _, l4 _, l5 _⟩
          | with_reducible exact ⟨k0, k1, k2, k3, k4, k5⟩
          | with_reducible exact ⟨e0, e1, e2, e3, e4, e5⟩)
        (first
          | (refine step_append_lies _ rfl (.tmp 11) (.tmp 24) 22 rfl w.heap.size 49 i0 _ 6 96 Tryz.underlying22 hi0 hz0 hz1 hz2 rfl (by decide) u3 j (flat css) (by simp [Act.eval, Act.put]) (World.ownsRow.alloc HO5.out _) ⟨w5.heap.size, 0, none⟩ 1 1 [.string p.1, .int .i64 p.2.kind, .int .i64 p.2.n, .string p.2.s, .slice A9 p.2.of.length c9, .slice B9 p.2.fields.length d9] (by simp [Act.eval, Act.put]) rfl (World.news_of_block (heap_alloc_new w5 _)) (by simp [Value.oneCell']) (by decide) (by unfold maxLen; omega) (by omega) (by simp; omega) _ rfl ?_; intro g cap w9 hown9 hg9 hat hlt9; have hb9 := q_far HVL.out hg9 b (by omega) (by omega); have n0_ := (World.cell?_of_block hb9).trans k0; have n1_ := (World.cell?_of_block hb9).trans k1; have n2_ := (World.cell?_of_block hb9).trans k2; have n3_ := (World.cell?_of_block hb9).trans k3; have n4_ := (World.cell?_of_block hb9).trans k4; have n5_ := (World.cell?_of_block hb9).trans k5; have HO9 := Lib.hid hown9; have HG9 := Lib.hid hg9; clear hown9 hg9 hb9)
          | (go_at_call 18; refine HC.out.mono ?_; rintro e w5 ⟨cs5, rfl, hb5, ht5⟩; obtain ⟨A9, c9, B9, d9, rfl, _⟩ := ht5.open_; have hb5 := below_of_drew hb5; have hs5 := hb5.size; have hb5b := hb5.block b hbVl; have k0 := (World.cell?_of_block hb5b).trans e0; have k1 := (World.cell?_of_block hb5b).trans e1; have k2 := (World.cell?_of_block hb5b).trans e2; have k3 := (World.cell?_of_block hb5b).trans e3; have k4 := (World.cell?_of_block hb5b).trans e4; have k5 := (World.cell?_of_block hb5b).trans e5; have hal : ∀ (o : Obj), (w5.alloc o).heap[b]? = w5.heap[b]? := fun o => Below.heap_alloc w5 o b (by omega); have l0 := fun o => (World.cell?_of_block (hal o)).trans k0; have l1 := fun o => (World.cell?_of_block (hal o)).trans k1; have l2 := fun o => (World.cell?_of_block (hal o)).trans k2; have l3 := fun o => (World.cell?_of_block (hal o)).trans k3; have l4 := fun o => (World.cell?_of_block (hal o)).trans k4; have l5 := fun o => (World.cell?_of_block (hal o)).trans k5; have hown5 : w5.ownsRow w.heap.size 49 6 u3 j (flat css) := (by rw [← HCL.out]; exact ownG_below HS.out.own hb5); have HO5 := Lib.hid hown5; have HB5 := Lib.hid hb5; have HT5 := Lib.hid ht5; clear hb5 ht5 hown5 hal hb5b))
      all_goals
        have hcl := HCL.out
        subst hcl
        have ht6 : TyV w5 (fun b => V.heap.size ≤ b ∧ b < w5.heap.size) p.2 _ := TyV.keep (fun b hb => ⟨hb, rfl⟩) _ _ HT5.out
        have hst2 := HS.out.push HB5.out ⟨_, rfl, HPS.out, ht6⟩ HPE.out HO9.out HG9.out hat
        have HS2 := Lib.hid hst2
        clear hst2 ht6
        go_wp2_with fail
        go_roundg (l.length - (css.length + 1))
        case measure => omega
        case rel => exact ⟨css.length + 1, _, by go_num, by omega, rfl, by simp, HS2.out⟩
    · have hje : j = l.length := by omega
      subst hje
      obtain ⟨A7, c7, rfl, h7⟩ := HS.out.whole HCL.out
      have H7 := Lib.hid h7
      clear h7
      go_wp2_with fail
      go_ret
      exact ⟨A7, c7, rfl, HS.out.below, H7.out⟩
end Go.Proofs.YtnmgocbmofbppaaGreatDoor
namespace Go.Proofs.YtnmgocbmofbppaaGreatDoor
open Go.RowKit

theorem preOk_comm : ∀ a b : List ByteArray, preOk a b = preOk b a
  | [], [] => rfl
  | [], _ :: _ => rfl
  | _ :: _, [] => rfl
  | x :: a, y :: b => by
    simp only [preOk]
    rw [preOk_comm a b, beq_comm' x.toList y.toList]
theorem tailC_comm (o n : Fi) : tailC o n = tailC n o := by
  unfold tailC
  rcases Nat.lt_trichotomy n.parents.length o.parents.length with h | h | h
  · rw [if_pos h, if_neg (by omega), if_pos h]
  · rw [if_neg (by omega), if_neg (by omega), if_neg (by omega), if_neg (by omega), beq_comm' n.name.toList, beq_comm' n.xmlns.toList]
  · rw [if_neg (by omega), if_pos h, if_pos h]
theorem confl_comm (o n : Fi) : confl o n = confl n o := by
  unfold confl
  rw [preOk_comm o.parents, tailC_comm o n, beq_comm' o.xmlns.toList]
  have h1 : decide (fAnd o.flags 127 = fAnd n.flags 127) = decide (fAnd n.flags 127 = fAnd o.flags 127) := by
    by_cases h : fAnd o.flags 127 = fAnd n.flags 127
    · rw [decide_eq_true h, decide_eq_true h.symm]
    · rw [decide_eq_false h, decide_eq_false (fun e => h e.symm)]
  rw [h1]
  cases o.xmlns.toList.isEmpty <;> cases n.xmlns.toList.isEmpty <;> rfl
/-- No two conflict. -/
def NoC (fs : List Fx) : Prop := fs.Pairwise fun a b => confl a.fi b.fi = false
theorem addFx_noC {fs fs' : List Fx} {x : Fx} (h : NoC fs) (e : addFx fs x = some fs') : NoC fs' := by
  unfold addFx at e
  simp only at e
  split at e
  · rename_i hc
    obtain rfl := Option.some.inj e
    refine List.pairwise_append.2 ⟨h, by simp, fun a ha b hb => ?_⟩
    simp at hb
    subst hb
    rw [List.isEmpty_iff, List.filter_eq_nil_iff] at hc
    simpa using hc a ha
  · split at e
    · obtain rfl := Option.some.inj e
      exact h
    · split at e
      · cases e
      · obtain rfl := Option.some.inj e
        refine List.pairwise_append.2 ⟨h.filter _, by simp, fun a ha b hb => ?_⟩
        simp at hb
        subst hb
        simpa using (List.mem_filter.1 ha).2
/-- What conflicts with none is added at the end. -/
theorem addFx_free {fs : List Fx} {x : Fx} (h : ∀ o ∈ fs, confl o.fi x.fi = false) : addFx fs x = some (fs ++ [x]) := by
  unfold addFx
  have : (fs.filter fun o => confl o.fi x.fi).isEmpty = true := by
    rw [List.isEmpty_iff, List.filter_eq_nil_iff]
    intro o ho
    rw [h o ho]
    decide
  simp only [this, if_true]
/-- Adding one behind the other. -/
def addAll (fs : List Fx) : List Fx → Option (List Fx)
  | [] => some fs
  | x :: xs => match addFx fs x with
    | some fs' => addAll fs' xs
    | none => none
theorem addAll_free : ∀ (xs fs : List Fx), NoC (fs ++ xs) → addAll fs xs = some (fs ++ xs)
  | [], fs, _ => by simp [addAll]
  | x :: xs, fs, h => by
    have h1 : ∀ o ∈ fs, confl o.fi x.fi = false := fun o ho => (List.pairwise_append.1 h).2.2 o ho x (by simp)
    simp only [addAll, addFx_free h1]
    have := addAll_free xs (fs ++ [x]) (by simpa using h)
    simpa using this
end Go.Proofs.YtnmgocbmofbppaaGreatDoor
namespace Go.Proofs.YtnmgocbmofbppaaGreatDoor
open Go.RowKit

/-- A type's rules. -/
structure Ti where
  xn : Option Fx
  fs : List Fx
/-- One field more; rec: the rules of the struct that it embeds. An error's flag: two paths conflict. -/
def gtiStep (tg : ByteArray → ByteArray) (ex : ByteArray → Bool) (l : AL Ty) (rec_ : List Fl → Except Bool Ti) (i : Nat) (f : Fl) (acc : Ti) : Except Bool Ti :=
  if (!ex f.name && !f.emb) || (tg f.tag).toList == [45] then .ok acc
  else if f.emb = true ∧ (envT l f.name).kind = 13 then
    match rec_ (envT l f.name).fields with
    | .error e => .error e
    | .ok inner => match addAll acc.fs (inner.fs.map fun x => ⟨x.fi, i :: x.idx⟩) with
      | none => .error true
      | some fs' => .ok ⟨acc.xn.or inner.xn, fs'⟩
  else match sfi tg (lkOf tg (bare f.t l)) f.name f.tag with
    | none => .error false
    | some fi => if f.name.toList == xmlNameL then .ok ⟨some ⟨fi, [i]⟩, acc.fs⟩
      else match addFx acc.fs ⟨fi, [i]⟩ with
        | none => .error true
        | some fs' => .ok ⟨acc.xn, fs'⟩
def gtiGo (tg : ByteArray → ByteArray) (ex : ByteArray → Bool) (l : AL Ty) (rec_ : List Fl → Except Bool Ti) : List Fl → Nat → Ti → Except Bool Ti
  | [], _, acc => .ok acc
  | f :: fs, i, acc => match gtiStep tg ex l rec_ i f acc with
    | .error e => .error e
    | .ok acc' => gtiGo tg ex l rec_ fs (i + 1) acc'
def gti (tg : ByteArray → ByteArray) (ex : ByteArray → Bool) (l : AL Ty) : Nat → List Fl → Except Bool Ti
  | 0, _ => .error false
  | n + 1, fs => gtiGo tg ex l (gti tg ex l n) fs 0 ⟨none, []⟩
/-- Embedded structs are at most so deep. -/
def Deep (l : AL Ty) : Nat → List Fl → Prop
  | 0, _ => False
  | n + 1, fs => ∀ f ∈ fs, f.emb = true → (envT l f.name).kind = 13 → Deep l n (envT l f.name).fields
theorem Deep.mono {l : AL Ty} : ∀ {n m : Nat} {fs : List Fl}, n ≤ m → Deep l n fs → Deep l m fs
  | 0, _, _, _, h => h.elim
  | n + 1, 0, _, hm, _ => by omega
  | n + 1, m + 1, fs, hm, h => fun f hf he hk => Deep.mono (by omega) (h f hf he hk)
theorem gtiGo_congr {tg : ByteArray → ByteArray} {ex : ByteArray → Bool} {l : AL Ty} {r r' : List Fl → Except Bool Ti} : ∀ (fs : List Fl) (i : Nat) (acc : Ti),
    (∀ f ∈ fs, f.emb = true → (envT l f.name).kind = 13 → r (envT l f.name).fields = r' (envT l f.name).fields) → gtiGo tg ex l r fs i acc = gtiGo tg ex l r' fs i acc
  | [], _, _, _ => rfl
  | f :: fs, i, acc, h => by
    have hs : gtiStep tg ex l r i f acc = gtiStep tg ex l r' i f acc := by
      unfold gtiStep
      split
      · rfl
      · split
        · rename_i hc
          rw [h f (by simp) hc.1 hc.2]
        · rfl
    simp only [gtiGo, hs]
    split
    · rfl
    · exact gtiGo_congr fs (i + 1) _ fun g hg => h g (by simp [hg])
/-- The fuel plays no part, where it is enough. -/
theorem gti_fuel {tg : ByteArray → ByteArray} {ex : ByteArray → Bool} {l : AL Ty} : ∀ {n m : Nat} {fs : List Fl}, Deep l n fs → Deep l m fs → gti tg ex l n fs = gti tg ex l m fs
  | 0, _, _, h, _ => h.elim
  | _ + 1, 0, _, _, h => h.elim
  | n + 1, m + 1, fs, h1, h2 => by
    unfold gti
    exact gtiGo_congr fs 0 _ fun f hf he hk => gti_fuel (h1 f hf he hk) (h2 f hf he hk)
end Go.Proofs.YtnmgocbmofbppaaGreatDoor
namespace Go.Proofs.YtnmgocbmofbppaaGreatDoor
open Go.RowKit

theorem addAll_noC : ∀ (xs fs fs' : List Fx), NoC fs → addAll fs xs = some fs' → NoC fs'
  | [], fs, fs', h, e => by
    simp only [addAll, Option.some.injEq] at e
    exact e ▸ h
  | x :: xs, fs, fs', h, e => by
    simp only [addAll] at e
    cases h1 : addFx fs x with
    | none => rw [h1] at e; cases e
    | some f2 =>
      rw [h1] at e
      exact addAll_noC xs f2 fs' (addFx_noC h h1) e
theorem gtiStep_noC {tg : ByteArray → ByteArray} {ex : ByteArray → Bool} {l : AL Ty} {r : List Fl → Except Bool Ti} {i : Nat} {f : Fl} {acc acc' : Ti} (h : NoC acc.fs) (e : gtiStep tg ex l r i f acc = .ok acc') : NoC acc'.fs := by
  unfold gtiStep at e
  split at e
  · injection e with e
    exact e ▸ h
  · split at e
    · cases h1 : r (envT l f.name).fields with
      | error b => rw [h1] at e; cases e
      | ok inner =>
        rw [h1] at e
        simp only at e
        cases h2 : addAll acc.fs (inner.fs.map fun x => ⟨x.fi, i :: x.idx⟩) with
        | none => rw [h2] at e; cases e
        | some fs' =>
          rw [h2] at e
          injection e with e
          subst e
          exact addAll_noC _ _ _ h h2
    · cases h1 : sfi tg (lkOf tg (bare f.t l)) f.name f.tag with
      | none => rw [h1] at e; cases e
      | some fi =>
        rw [h1] at e
        simp only at e
        split at e
        · injection e with e
          subst e
          exact h
        · cases h2 : addFx acc.fs ⟨fi, [i]⟩ with
          | none => rw [h2] at e; cases e
          | some fs' =>
            rw [h2] at e
            injection e with e
            subst e
            exact addFx_noC h h2
theorem gtiGo_noC {tg : ByteArray → ByteArray} {ex : ByteArray → Bool} {l : AL Ty} {r : List Fl → Except Bool Ti} : ∀ (fs : List Fl) (i : Nat) (acc acc' : Ti), NoC acc.fs → gtiGo tg ex l r fs i acc = .ok acc' → NoC acc'.fs
  | [], i, acc, acc', h, e => by
    simp only [gtiGo] at e
    injection e with e
    exact e ▸ h
  | f :: fs, i, acc, acc', h, e => by
    simp only [gtiGo] at e
    cases h1 : gtiStep tg ex l r i f acc with
    | error b => rw [h1] at e; cases e
    | ok a2 =>
      rw [h1] at e
      exact gtiGo_noC fs (i + 1) a2 acc' (gtiStep_noC h h1) e
theorem gti_noC {tg : ByteArray → ByteArray} {ex : ByteArray → Bool} {l : AL Ty} {n : Nat} {fs : List Fl} {t : Ti} (e : gti tg ex l n fs = .ok t) : NoC t.fs := by
  cases n with
  | zero => cases e
  | succ n => exact gtiGo_noC fs 0 ⟨none, []⟩ _ (by exact List.Pairwise.nil) e
/-- A struct that embeds one struct alone. -/
theorem gti_inner {tg : ByteArray → ByteArray} {ex : ByteArray → Bool} {l : AL Ty} {n : Nat} {f : Fl} (ht : (tg f.tag).toList = []) (he : f.emb = true) (hk : (envT l f.name).kind = 13) :
    gti tg ex l (n + 1) [f] = match gti tg ex l n (envT l f.name).fields with
      | .error b => .error b
      | .ok t => .ok ⟨t.xn, t.fs.map fun x => ⟨x.fi, 0 :: x.idx⟩⟩ := by
  have h0 : ((!ex f.name && !f.emb) || (tg f.tag).toList == [45]) = false := by rw [he, ht]; simp
  have hs : gtiGo tg ex l (gti tg ex l n) [f] 0 ⟨none, []⟩ = match gtiStep tg ex l (gti tg ex l n) 0 f ⟨none, []⟩ with
    | .error e => .error e
    | .ok acc' => .ok acc' := by
    simp only [gtiGo]
    try (cases gtiStep tg ex l (gti tg ex l n) 0 f ⟨none, []⟩ <;> rfl)
  show gtiGo tg ex l (gti tg ex l n) [f] 0 ⟨none, []⟩ = _
  rw [hs]
  unfold gtiStep
  rw [h0, if_neg (by decide), if_pos ⟨he, hk⟩]
  cases h1 : gti tg ex l n (envT l f.name).fields with
  | error b => rfl
  | ok t =>
    have hn : NoC (t.fs.map fun x => (⟨x.fi, 0 :: x.idx⟩ : Fx)) := List.pairwise_map.2 (gti_noC h1)
    have ha := addAll_free (t.fs.map fun x => (⟨x.fi, 0 :: x.idx⟩ : Fx)) [] (by simpa using hn)
    simp only [ha]
    simp
end Go.Proofs.YtnmgocbmofbppaaGreatDoor
namespace Go.Proofs.YtnmgocbmofbppaaGreatDoor
open Go.RowKit

theorem sum_mem : ∀ (cs : List Nat) (j c : Nat), cs[j]? = some c → c ≤ cs.sum
  | [], j, c, h => by simp at h
  | d :: cs, 0, c, h => by
    simp at h
    subst h
    simp
  | d :: cs, j + 1, c, h => by
    have := sum_mem cs j c (by simpa using h)
    simp
    omega
/-- What few ways say of a type, of the struct behind a name, and behind a pointer to a name. -/
def DeepQ (l : AL Ty) (T : Ty) (c : Nat) : Prop :=
  (T.kind = 13 → (∀ f ∈ T.fields, embOk f) → Deep l c T.fields) ∧
  (T.kind = 14 → (envT l T.s).kind = 13 → Deep l c (envT l T.s).fields) ∧
  (T.kind = 12 → ∀ t ∈ T.of, t.kind = 14 → (envT l t.s).kind = 13 → Deep l c (envT l t.s).fields)
theorem deepQ_of {l : AL Ty} (hE : ∀ s, (envT l s).kind = 13 → ∀ f ∈ (envT l s).fields, embOk f) {T : Ty} {c : Nat} (h : WaysC l T c) : DeepQ l T c := by
  induction h with
  | @named n s of fs c _ ih =>
    exact ⟨fun h => absurd h (by show (14 : Int) ≠ 13; decide), fun _ hk => Deep.mono (by omega) (ih.1 hk (hE s hk)), fun h => absurd h (by show (14 : Int) ≠ 12; decide)⟩
  | @ptr n s t fs c _ ih =>
    refine ⟨fun h => absurd h (by show (12 : Int) ≠ 13; decide), fun h => absurd h (by show (12 : Int) ≠ 14; decide), fun _ t' ht' hk he => ?_⟩
    have : t' = t := by simpa [Ty.of] using ht'
    subst this
    exact Deep.mono (by omega) (ih.2.1 hk he)
  | @struct n s of fs cs hl _ ih =>
    refine ⟨fun _ hem => ?_, fun h => absurd h (by show (13 : Int) ≠ 14; decide), fun h => absurd h (by show (13 : Int) ≠ 12; decide)⟩
    rw [show 1 + cs.length + cs.sum = (cs.length + cs.sum) + 1 by omega]
    show ∀ f ∈ fs, f.emb = true → (envT l f.name).kind = 13 → Deep l (cs.length + cs.sum) (envT l f.name).fields
    intro f hf he hk
    obtain ⟨j, hj, hjf⟩ := List.mem_iff_getElem.1 hf
    have hjc : j < cs.length := by rw [hl]; exact hj
    have h1 : cs[j]? = some cs[j] := List.getElem?_eq_getElem hjc
    have hs := sum_mem cs j _ h1
    have hq := ih j f cs[j] (by rw [← hjf]; exact List.getElem?_eq_getElem hj) h1 he
    rcases (hem f hf).2 he with ⟨n', of', fs', ht⟩ | ⟨n', s', fs', n2, of2, fs2, ht⟩
    · rw [ht] at hq
      exact Deep.mono (by omega) (hq.2.1 rfl hk)
    · rw [ht] at hq
      exact Deep.mono (by omega) (hq.2.2 rfl (.mk 14 n2 f.name of2 fs2) (by simp [Ty.of]) rfl hk)
  | other h12 h13 h14 => exact ⟨fun h => absurd h h13, fun h => absurd h h14, fun h => absurd h h12⟩
end Go.Proofs.YtnmgocbmofbppaaGreatDoor
namespace Go.Proofs.YtnmgocbmofbppaaGreatDoor
open Go.RowKit

/-- A block whose first cell is a number or a text: no type's, no row's of rules. -/
def Plain (w : World) (b : Nat) : Prop := (∃ z, w.cell? ⟨b, 0, none⟩ = some (.int .i64 z)) ∨ ∃ s, w.cell? ⟨b, 0, none⟩ = some (.string s)
theorem FxQ.plain {w : World} {ok : Nat → Prop} {vs : List Value} {x : Fx} (h : FxQ w ok vs x) : FxQ w (Plain w) vs x := by
  obtain ⟨ib, ic, A, pc, h1, h2, h3, h4, h5, h6, h7⟩ := h
  obtain ⟨y, hy⟩ : ∃ y, x.idx[0]? = some y := ⟨_, List.getElem?_eq_getElem (List.length_pos_iff.2 h4)⟩
  refine ⟨ib, ic, A, pc, h1, .inl ⟨_, h3 0 y hy⟩, h3, h4, h5, h6, fun j y e => ?_⟩
  obtain ⟨g, h8, h9, h10⟩ := h7 j y e
  obtain ⟨z, hz⟩ : ∃ z, x.fi.parents[0]? = some z := ⟨_, List.getElem?_eq_getElem (by have := (List.getElem?_eq_some_iff.1 e).1; omega)⟩
  obtain ⟨g', h11, h12, h13⟩ := h7 0 z hz
  rw [h8] at h11
  injection h11 with h11
  injection h11 with h11
  subst h11
  exact ⟨g, h8, .inr ⟨_, h13⟩, h10⟩
theorem FxQ.mono {w : World} {ok ok' : Nat → Prop} {vs : List Value} {x : Fx} (h : FxQ w ok vs x) (hk : ∀ b, b < w.heap.size → ok b → ok' b) : FxQ w ok' vs x := h.keep fun b hb ho => ⟨hk b hb ho, rfl⟩
/-- Only Info has turned, in the blocks of S. -/
structure NX (S : Nat → Prop) (w w' : World) : Prop where
  ext : Ext S w w'
  cell : ∀ k i, S k → k < w.heap.size → i ≠ 7 → w'.cell? ⟨k, i, none⟩ = w.cell? ⟨k, i, none⟩
  fz : ∀ k i, S k → k < w.heap.size → w'.frozen? ⟨k, i, none⟩ = w.frozen? ⟨k, i, none⟩
section
variable {S S' : Nat → Prop} {w w1 w2 : World}
theorem NX.refl (S : Nat → Prop) (w : World) : NX S w w := ⟨Ext.refl _ _, fun _ _ _ _ _ => rfl, fun _ _ _ _ => rfl⟩
theorem NX.trans (h : NX S w w1) (k : NX S w1 w2) : NX S w w2 :=
  ⟨h.ext.trans k.ext, fun b i hb hl hi => (k.cell b i hb (Nat.lt_of_lt_of_le hl h.ext.size) hi).trans (h.cell b i hb hl hi), fun b i hb hl => (k.fz b i hb (Nat.lt_of_lt_of_le hl h.ext.size)).trans (h.fz b i hb hl)⟩
theorem NX.of_ext (h : Ext (fun _ => False) w w1) : NX S w w1 :=
  ⟨h.mono fun _ _ e => e.elim, fun k i _ hl _ => World.cell?_of_block (h.block k hl fun e => e), fun k i _ hl => World.frozen?_of_block (h.block k hl fun e => e)⟩
theorem NX.of_below (h : Below w.heap.size w w1) : NX S w w1 := NX.of_ext (Ext.of_below h)
theorem NX.mono (h : NX S w w1) (hs : ∀ k, k < w.heap.size → S k → S' k) : NX S' w w1 := by
  refine ⟨h.ext.mono hs, fun k i _ hl hi => ?_, fun k i _ hl => ?_⟩
  · by_cases hk : S k
    · exact h.cell k i hk hl hi
    · exact World.cell?_of_block (h.ext.block k hl hk)
  · by_cases hk : S k
    · exact h.fz k i hk hl
    · exact World.frozen?_of_block (h.ext.block k hl hk)
/-- Info is written. -/
theorem NX.info (w : World) {k : Nat} (v : Value) (hk : S k) : NX S w (w.setCell ⟨k, 7, none⟩ v) :=
  ⟨Ext.setCell w hk v, fun b i _ _ hi => World.cell?_setCell_other _ _ _ _ (fun e => by injection e with e1 e2; exact hi e2.symm), fun _ _ _ _ => World.frozen?_setCell _ _ _ _⟩
/-- The blocks of S are types'. -/
def Typed (S : Nat → Prop) (w : World) : Prop := ∀ k, S k → ∃ K, w.cell? ⟨k, 0, none⟩ = some (.int .u8 K)
theorem Typed.keep (h : Typed S w) (hx : NX S w w1) : Typed S w1 := fun k hk => by
  obtain ⟨K, hK⟩ := h k hk
  exact ⟨K, (hx.cell k 0 hk (lt_cell hK) (by decide)).trans hK⟩
theorem NX.cellNot (hx : NX S w w1) (hS : Typed S w) {b : Nat} {u : Value} (h0 : w.cell? ⟨b, 0, none⟩ = some u) (hu : ∀ K, u ≠ .int .u8 K) : w1.heap[b]? = w.heap[b]? :=
  hx.ext.block b (lt_cell h0) fun hb => by
    obtain ⟨K, hK⟩ := hS b hb
    rw [h0] at hK
    exact hu K (Option.some.inj hK)
theorem NX.plain (hx : NX S w w1) (hS : Typed S w) {b : Nat} (h : Plain w b) : Plain w1 b ∧ w1.heap[b]? = w.heap[b]? := by
  have hb : w1.heap[b]? = w.heap[b]? := by
    rcases h with ⟨z, hz⟩ | ⟨s, hs⟩
    · exact hx.cellNot hS hz fun K e => by cases e
    · exact hx.cellNot hS hs fun K e => by cases e
  refine ⟨?_, hb⟩
  rcases h with ⟨z, hz⟩ | ⟨s, hs⟩
  · exact .inl ⟨z, (World.cell?_of_block hb).trans hz⟩
  · exact .inr ⟨s, (World.cell?_of_block hb).trans hs⟩
end
/-- The five cells of a field's rules, from place o of a block on. -/
def FxAt (w : World) (g o : Nat) (x : Fx) : Prop := ∃ vs, FxQ w (Plain w) vs x ∧ ∀ k u, vs[k]? = some u → w.cell? ⟨g, o + k, none⟩ = some u
/-- The name's rules. -/
def XnV (w : World) (ok : Nat → Prop) (p : Option Addr) : Option Fx → Prop
  | none => p = none
  | some x => ∃ fp, p = some ⟨fp, 0, none⟩ ∧ ok fp ∧ FxAt w fp 0 x
/-- The rows of rules. -/
def RowsV (w : World) (ok : Nat → Prop) (SA : Option Addr) (fs : List Fx) : Prop := ∀ (i : Nat) (x : Fx), fs[i]? = some x → ∃ g, SA = some ⟨g, 0, none⟩ ∧ ok g ∧ FxAt w g (i * 5) x
/-- A type's rules, laid down. -/
structure InfoV (w : World) (ok : Nat → Prop) (ti : Nat) (t : Ti) : Prop where
  at_ : ok ti
  c0 : ∃ p, w.cell? ⟨ti, 0, none⟩ = some (.pointer p) ∧ XnV w ok p t.xn
  c1 : ∃ SA SC, w.cell? ⟨ti, 1, none⟩ = some (.slice SA t.fs.length SC) ∧ RowsV w ok SA t.fs
/-- What turns nothing of rules. -/
structure Kp (ok ok' : Nat → Prop) (w w' : World) : Prop where
  ok : ∀ b, b < w.heap.size → ok b → ok' b ∧ w'.heap[b]? = w.heap[b]?
  pl : ∀ b, Plain w b → w'.heap[b]? = w.heap[b]?
section
variable {S : Nat → Prop} {ok ok' : Nat → Prop} {w w1 : World}
theorem Kp.of_ext (hx : Ext S w w1) (h1 : ∀ b, ok b → ¬ S b) (h2 : ∀ b, S b → ¬ Plain w b) (h3 : ∀ b, b < w.heap.size → ok b → ok' b) : Kp ok ok' w w1 :=
  ⟨fun b hb ho => ⟨h3 b hb ho, hx.block b hb (h1 b ho)⟩, fun b hp => hx.block b (by rcases hp with ⟨z, hz⟩ | ⟨s, hs⟩ <;> exact lt_cell (by assumption)) fun hb => h2 b hb hp⟩
theorem Typed.notPlain (h : Typed S w) (b : Nat) (hb : S b) : ¬ Plain w b := by
  obtain ⟨K, hK⟩ := h b hb
  rintro (⟨z, hz⟩ | ⟨s, hs⟩)
  · rw [hK] at hz; cases hz
  · rw [hK] at hs; cases hs
theorem Kp.below (hb : Below w.heap.size w w1) (h3 : ∀ b, b < w.heap.size → ok b → ok' b) : Kp ok ok' w w1 := Kp.of_ext (Ext.of_below hb) (fun _ _ e => e) (fun _ e => e.elim) h3
theorem FxAt.at_ {g o : Nat} {x : Fx} (h : FxAt w g o x) : ∃ ib ic A pc, (w.cell? ⟨g, o, none⟩ = some (.slice (some ⟨ib, 0, none⟩) x.idx.length ic) ∧ w.cell? ⟨g, o + 1, none⟩ = some (.string x.fi.name) ∧ w.cell? ⟨g, o + 2, none⟩ = some (.string x.fi.xmlns) ∧
      w.cell? ⟨g, o + 3, none⟩ = some (.int .i64 x.fi.flags) ∧ w.cell? ⟨g, o + 4, none⟩ = some (.slice A x.fi.parents.length pc)) ∧ FxQ w (Plain w) [.slice (some ⟨ib, 0, none⟩) x.idx.length ic, .string x.fi.name, .string x.fi.xmlns, .int .i64 x.fi.flags, .slice A x.fi.parents.length pc] x := by
  obtain ⟨vs, hq, hc⟩ := h
  have hq' := hq
  obtain ⟨ib, ic, A, pc, rfl, _⟩ := hq'
  exact ⟨ib, ic, A, pc, ⟨hc 0 _ rfl, hc 1 _ rfl, hc 2 _ rfl, hc 3 _ rfl, hc 4 _ rfl⟩, hq⟩
theorem FxAt.block {g o : Nat} {x : Fx} (h : FxAt w g o x) : g < w.heap.size := by
  obtain ⟨_, _, _, _, ⟨h0, _⟩, _⟩ := h.at_
  exact lt_cell h0
theorem Plain.keep {b : Nat} (h : Plain w b) (hb : w1.heap[b]? = w.heap[b]?) : Plain w1 b := by
  rcases h with ⟨z, hz⟩ | ⟨s, hs⟩
  · exact .inl ⟨z, (World.cell?_of_block hb).trans hz⟩
  · exact .inr ⟨s, (World.cell?_of_block hb).trans hs⟩
theorem FxAt.keep {g o : Nat} {x : Fx} (h : FxAt w g o x) (hp : ∀ b, Plain w b → w1.heap[b]? = w.heap[b]?) (hg : w1.heap[g]? = w.heap[g]?) : FxAt w1 g o x := by
  obtain ⟨vs, hq, hc⟩ := h
  exact ⟨vs, hq.keep fun b _ hb => ⟨hb.keep (hp b hb), hp b hb⟩, fun k u e => (World.cell?_of_block hg).trans (hc k u e)⟩
theorem XnV.keep {p : Option Addr} {x : Option Fx} (h : XnV w ok p x) (k : Kp ok ok' w w1) : XnV w1 ok' p x := by
  cases x with
  | none => exact h
  | some x =>
    obtain ⟨fp, h1, h2, h3⟩ := h
    have hk := k.ok fp h3.block h2
    exact ⟨fp, h1, hk.1, h3.keep k.pl hk.2⟩
theorem RowsV.keep {SA : Option Addr} {fs : List Fx} (h : RowsV w ok SA fs) (k : Kp ok ok' w w1) : RowsV w1 ok' SA fs := by
  intro i x hi
  obtain ⟨g, h1, h2, h3⟩ := h i x hi
  have hk := k.ok g h3.block h2
  exact ⟨g, h1, hk.1, h3.keep k.pl hk.2⟩
theorem InfoV.keep {ti : Nat} {t : Ti} (h : InfoV w ok ti t) (k : Kp ok ok' w w1) : InfoV w1 ok' ti t := by
  obtain ⟨p, h1, h2⟩ := h.c0
  obtain ⟨SA, SC, h3, h4⟩ := h.c1
  have hb := k.ok ti (lt_cell h1) h.at_
  exact ⟨hb.1, ⟨p, (World.cell?_of_block hb.2).trans h1, h2.keep k⟩, ⟨SA, SC, (World.cell?_of_block hb.2).trans h3, h4.keep k⟩⟩
end
/-- The blocks of named types. -/
def Nm (am : Am) (k : Nat) : Prop := ∃ s, am s = some k
theorem GNm.keepX {n0 : Nat} {w w' : World} {am : Am} {l : AL Ty} (h : GNm n0 w am l) (hx : NX (Nm am) w w') : GNm n0 w' am l := by
  have hs := hx.ext.size
  refine ⟨h.ok, fun s b e => ?_⟩
  obtain ⟨h1, h2, T, h3, h4⟩ := h.named s b e
  exact ⟨h1, by omega, T, h3, h4.keep (fun i hi => ⟨⟨hi.1, by have := hi.2.1; omega, hi.2.2⟩, hx.ext.block i hi.2.1 (fun ⟨s, hs⟩ => hi.2.2 s hs)⟩) (fun _ _ e => e) (fun i hi => hx.cell b i ⟨s, e⟩ h2 (by omega))⟩
theorem RT.keepX {n0 : Nat} {w w' : World} {am : Am} {T : Ty} {y : Nat} (h : RT w (Fr n0 w am) am T y) (hx : NX (Nm am) w w') : RT w' (Fr n0 w' am) am T y := by
  have hs := hx.ext.size
  exact RT.keep (fun i hi => ⟨⟨hi.1, by have := hi.2.1; omega, hi.2.2⟩, hx.ext.block i hi.2.1 (fun ⟨s, hs⟩ => hi.2.2 s hs)⟩) (fun _ _ e => e) _ _ h
theorem RF.keepX {n0 : Nat} {w w' : World} {am : Am} {fs : List Fl} {A : Option Addr} {i : Nat} (h : RF w (Fr n0 w am) am fs A i) (hx : NX (Nm am) w w') : RF w' (Fr n0 w' am) am fs A i := by
  have hs := hx.ext.size
  exact RF.keep (fun i hi => ⟨⟨hi.1, by have := hi.2.1; omega, hi.2.2⟩, hx.ext.block i hi.2.1 (fun ⟨s, hs⟩ => hi.2.2 s hs)⟩) (fun _ _ e => e) _ _ _ h
theorem GNm.typed {n0 : Nat} {w : World} {am : Am} {l : AL Ty} (h : GNm n0 w am l) : Typed (Nm am) w := fun k ⟨s, e⟩ => by
  obtain ⟨_, _, T, _, _, e', ke, A, fl, fc, hT, _⟩ := h.named s k e
  exact ⟨_, hT.c0⟩
end Go.Proofs.YtnmgocbmofbppaaGreatDoor
namespace Go.Proofs.YtnmgocbmofbppaaGreatDoor
open Go.RowKit

/-- A mode's number. -/
def modeI (m : Int) : Int := if m = 1 then 1 else if m = 2 then 2 else if m = 4 then 3 else if m = 8 then 4 else if m = 16 then 5 else if m = 32 then 6 else if m = 64 then 7 else if m = 65 then 7 else if m = 66 then 8 else 0
set_option maxHeartbeats 4000000 in
set_option maxRecDepth 100000 in
theorem info_any (a b : ByteArray) (A : Option Addr) (n c : Nat) (f : Int) (I : Option Addr) (m d : Nat) (w : World) :
    Calls Tryz.prog 22 #[.agg #[.string a, .string b, .slice A n c, .int .i64 f, .slice I m d]] w fun e w' => e = .returned (.agg #[.string a, .string b, .slice A n c, .int .i64 (modeI (bits .and .i64 f 127)), .bool (bits .and .i64 f 128 != 0), .slice I m d]) ∧ Below w.heap.size w w' := by
  obtain ⟨x, hx⟩ : ∃ x, bits .and .i64 f 127 = x := ⟨_, rfl⟩
  obtain ⟨z, hz⟩ : ∃ z, (bits .and .i64 f 128 != 0) = z := ⟨_, rfl⟩
  rw [hx, hz]
  by_cases h1 : x = 1
  · subst h1
    rw [show modeI 1 = 1 from by decide]
    go_enter Tryz.func22, Tryz.ntmps22
    go_wp2
    refine bodyPost_ret (v := .agg #[.string a, .string b, .slice A n c, .int .i64 1, .bool z, .slice I m d]) (by simp [results, Tryz.results22, go_sem]) rfl ⟨rfl, ?_⟩
    exact (((Below.refl _ _).alloc (Nat.le_refl _) _).alloc (by simp) _).alloc (by simp; omega) _
  ·
    by_cases h2 : x = 2
    · subst h2
      rw [show modeI 2 = 2 from by decide]
      go_enter Tryz.func22, Tryz.ntmps22
      go_wp2
      refine bodyPost_ret (v := .agg #[.string a, .string b, .slice A n c, .int .i64 2, .bool z, .slice I m d]) (by simp [results, Tryz.results22, go_sem]) rfl ⟨rfl, ?_⟩
      exact (((Below.refl _ _).alloc (Nat.le_refl _) _).alloc (by simp) _).alloc (by simp; omega) _
    ·
      by_cases h4 : x = 4
      · subst h4
        rw [show modeI 4 = 3 from by decide]
        go_enter Tryz.func22, Tryz.ntmps22
        go_wp2
        refine bodyPost_ret (v := .agg #[.string a, .string b, .slice A n c, .int .i64 3, .bool z, .slice I m d]) (by simp [results, Tryz.results22, go_sem]) rfl ⟨rfl, ?_⟩
        exact (((Below.refl _ _).alloc (Nat.le_refl _) _).alloc (by simp) _).alloc (by simp; omega) _
      ·
        by_cases h8 : x = 8
        · subst h8
          rw [show modeI 8 = 4 from by decide]
          go_enter Tryz.func22, Tryz.ntmps22
          go_wp2
          refine bodyPost_ret (v := .agg #[.string a, .string b, .slice A n c, .int .i64 4, .bool z, .slice I m d]) (by simp [results, Tryz.results22, go_sem]) rfl ⟨rfl, ?_⟩
          exact (((Below.refl _ _).alloc (Nat.le_refl _) _).alloc (by simp) _).alloc (by simp; omega) _
        ·
          by_cases h16 : x = 16
          · subst h16
            rw [show modeI 16 = 5 from by decide]
            go_enter Tryz.func22, Tryz.ntmps22
            go_wp2
            refine bodyPost_ret (v := .agg #[.string a, .string b, .slice A n c, .int .i64 5, .bool z, .slice I m d]) (by simp [results, Tryz.results22, go_sem]) rfl ⟨rfl, ?_⟩
            exact (((Below.refl _ _).alloc (Nat.le_refl _) _).alloc (by simp) _).alloc (by simp; omega) _
          ·
            by_cases h32 : x = 32
            · subst h32
              rw [show modeI 32 = 6 from by decide]
              go_enter Tryz.func22, Tryz.ntmps22
              go_wp2
              refine bodyPost_ret (v := .agg #[.string a, .string b, .slice A n c, .int .i64 6, .bool z, .slice I m d]) (by simp [results, Tryz.results22, go_sem]) rfl ⟨rfl, ?_⟩
              exact (((Below.refl _ _).alloc (Nat.le_refl _) _).alloc (by simp) _).alloc (by simp; omega) _
            ·
              by_cases h64 : x = 64
              · subst h64
                rw [show modeI 64 = 7 from by decide]
                go_enter Tryz.func22, Tryz.ntmps22
                go_wp2
                refine bodyPost_ret (v := .agg #[.string a, .string b, .slice A n c, .int .i64 7, .bool z, .slice I m d]) (by simp [results, Tryz.results22, go_sem]) rfl ⟨rfl, ?_⟩
                exact (((Below.refl _ _).alloc (Nat.le_refl _) _).alloc (by simp) _).alloc (by simp; omega) _
              ·
                by_cases h65 : x = 65
                · subst h65
                  rw [show modeI 65 = 7 from by decide]
                  go_enter Tryz.func22, Tryz.ntmps22
                  go_wp2
                  refine bodyPost_ret (v := .agg #[.string a, .string b, .slice A n c, .int .i64 7, .bool z, .slice I m d]) (by simp [results, Tryz.results22, go_sem]) rfl ⟨rfl, ?_⟩
                  exact (((Below.refl _ _).alloc (Nat.le_refl _) _).alloc (by simp) _).alloc (by simp; omega) _
                ·
                  by_cases h66 : x = 66
                  · subst h66
                    rw [show modeI 66 = 8 from by decide]
                    go_enter Tryz.func22, Tryz.ntmps22
                    go_wp2
                    refine bodyPost_ret (v := .agg #[.string a, .string b, .slice A n c, .int .i64 8, .bool z, .slice I m d]) (by simp [results, Tryz.results22, go_sem]) rfl ⟨rfl, ?_⟩
                    exact (((Below.refl _ _).alloc (Nat.le_refl _) _).alloc (by simp) _).alloc (by simp; omega) _
                  ·
                    have e1 : (x == 1) = false := by simpa using h1
                    have e2 : (x == 2) = false := by simpa using h2
                    have e4 : (x == 4) = false := by simpa using h4
                    have e8 : (x == 8) = false := by simpa using h8
                    have e16 : (x == 16) = false := by simpa using h16
                    have e32 : (x == 32) = false := by simpa using h32
                    have e64 : (x == 64) = false := by simpa using h64
                    have e65 : (x == 65) = false := by simpa using h65
                    have e66 : (x == 66) = false := by simpa using h66
                    rw [show modeI x = 0 from by unfold modeI; simp [h1, h2, h4, h8, h16, h32, h64, h65, h66]]
                    go_enter Tryz.func22, Tryz.ntmps22
                    go_wp2
                    refine bodyPost_ret (v := .agg #[.string a, .string b, .slice A n c, .int .i64 0, .bool z, .slice I m d]) (by simp [results, Tryz.results22, go_sem]) rfl ⟨rfl, ?_⟩
                    exact (((Below.refl _ _).alloc (Nat.le_refl _) _).alloc (by simp) _).alloc (by simp; omega) _
end Go.Proofs.YtnmgocbmofbppaaGreatDoor
namespace Go.Proofs.YtnmgocbmofbppaaGreatDoor
open Go.RowKit

/-- The places, below j, of the fields that conflict with one. -/
def cfl (L : List Fx) (n : Fi) (j : Nat) : List Nat := (List.range j).filter fun i => match L[i]? with
  | some o => confl o.fi n
  | none => false
def intsOf (l : List Nat) : List Value := l.map fun (i : Nat) => Value.int .i64 (i : Int)
theorem cfl_succ (L : List Fx) (n : Fi) (j : Nat) (o : Fx) (h : L[j]? = some o) : cfl L n (j + 1) = if confl o.fi n then cfl L n j ++ [j] else cfl L n j := by
  unfold cfl
  rw [List.range_succ, List.filter_append]
  simp only [List.filter_cons, List.filter_nil, h]
  split <;> simp
theorem drop_cons {α : Type} {l : List α} {j : Nat} {x : α} (h : l[j]? = some x) : l.drop j = x :: l.drop (j + 1) := by
  have hlt : j < l.length := (List.getElem?_eq_some_iff.1 h).1
  rw [List.drop_eq_getElem_cons hlt]
  congr 1
  rw [List.getElem?_eq_getElem hlt] at h
  exact Option.some.inj h
theorem cfl_len (L : List Fx) (n : Fi) (j : Nat) : (cfl L n j).length ≤ j := by
  have : (cfl L n j).length ≤ (List.range j).length := List.length_filter_le _ _
  simpa using this
theorem cfl_mem {L : List Fx} {n : Fi} {j i : Nat} : i ∈ cfl L n j ↔ i < j ∧ ∃ o, L[i]? = some o ∧ confl o.fi n = true := by
  unfold cfl
  rw [List.mem_filter, List.mem_range]
  constructor
  · rintro ⟨h1, h2⟩
    refine ⟨h1, ?_⟩
    split at h2
    · rename_i o ho
      exact ⟨o, ho, h2⟩
    · cases h2
  · rintro ⟨h1, o, h2, h3⟩
    exact ⟨h1, by rw [h2]; exact h3⟩
theorem mem_filter_cfl {L : List Fx} {n : Fi} {o : Fx} : (o ∈ L.filter fun o => confl o.fi n) ↔ ∃ i, i ∈ cfl L n L.length ∧ L[i]? = some o := by
  rw [List.mem_filter]
  constructor
  · rintro ⟨h1, h2⟩
    obtain ⟨i, hi, rfl⟩ := List.mem_iff_getElem.1 h1
    exact ⟨i, cfl_mem.2 ⟨hi, _, List.getElem?_eq_getElem hi, h2⟩, List.getElem?_eq_getElem hi⟩
  · rintro ⟨i, h1, h2⟩
    obtain ⟨_, o', h3, h4⟩ := cfl_mem.1 h1
    obtain rfl : o' = o := by rw [h2] at h3; exact (Option.some.inj h3).symm
    exact ⟨List.mem_of_getElem? h2, h4⟩
theorem addFx_nil {L : List Fx} {x : Fx} (h : cfl L x.fi L.length = []) : addFx L x = some (L ++ [x]) := by
  refine addFx_none_of (fun o ho => ?_)
  by_cases hc : confl o.fi x.fi = true
  · obtain ⟨i, hi, _⟩ := mem_filter_cfl.1 (List.mem_filter.2 ⟨ho, hc⟩)
    rw [h] at hi
    cases hi
  · simpa using hc
 where
  addFx_none_of {fs : List Fx} {x : Fx} (h : ∀ o ∈ fs, confl o.fi x.fi = false) : addFx fs x = some (fs ++ [x]) := by
    unfold addFx
    have : (fs.filter fun o => confl o.fi x.fi).isEmpty = true := by
      rw [List.isEmpty_iff, List.filter_eq_nil_iff]
      intro o ho
      rw [h o ho]
      decide
    simp only [this, if_true]
theorem cs_ne {L : List Fx} {n : Fi} {i : Nat} (h : i ∈ cfl L n L.length) : (L.filter fun o => confl o.fi n).isEmpty = false := by
  obtain ⟨_, o, h1, h2⟩ := cfl_mem.1 h
  rw [Bool.eq_false_iff]
  intro e
  rw [List.isEmpty_iff] at e
  have : o ∈ L.filter fun o => confl o.fi n := mem_filter_cfl.2 ⟨i, h, h1⟩
  rw [e] at this
  cases this
theorem addFx_keep {L : List Fx} {x o : Fx} {i : Nat} (h : i ∈ cfl L x.fi L.length) (ho : L[i]? = some o) (hl : o.idx.length < x.idx.length) : addFx L x = some L := by
  unfold addFx
  simp only [cs_ne h]
  have : ((L.filter fun o => confl o.fi x.fi).any fun o => decide (o.idx.length < x.idx.length)) = true := List.any_eq_true.2 ⟨o, mem_filter_cfl.2 ⟨i, h, ho⟩, by simpa using hl⟩
  simp only [this]
  rfl
theorem no_lt {L : List Fx} {x : Fx} (h : ∀ i ∈ cfl L x.fi L.length, ∀ o, L[i]? = some o → ¬ o.idx.length < x.idx.length) : ((L.filter fun o => confl o.fi x.fi).any fun o => decide (o.idx.length < x.idx.length)) = false := by
  rw [Bool.eq_false_iff]
  intro e
  obtain ⟨o, h1, h2⟩ := List.any_eq_true.1 e
  obtain ⟨i, h3, h4⟩ := mem_filter_cfl.1 h1
  exact h i h3 o h4 (by simpa using h2)
theorem addFx_err {L : List Fx} {x o : Fx} {i : Nat} (hn : ∀ i ∈ cfl L x.fi L.length, ∀ o, L[i]? = some o → ¬ o.idx.length < x.idx.length) (h : i ∈ cfl L x.fi L.length) (ho : L[i]? = some o) (hl : o.idx.length = x.idx.length) : addFx L x = none := by
  unfold addFx
  have : ((L.filter fun o => confl o.fi x.fi).any fun o => decide (o.idx.length = x.idx.length)) = true := List.any_eq_true.2 ⟨o, mem_filter_cfl.2 ⟨i, h, ho⟩, by simpa using hl⟩
  simp only [cs_ne h, no_lt hn, this]
  rfl
theorem addFx_drop {L : List Fx} {x : Fx} {i : Nat} (hn : ∀ i ∈ cfl L x.fi L.length, ∀ o, L[i]? = some o → ¬ o.idx.length < x.idx.length) (he : ∀ i ∈ cfl L x.fi L.length, ∀ o, L[i]? = some o → ¬ o.idx.length = x.idx.length) (h : i ∈ cfl L x.fi L.length) :
    addFx L x = some ((L.filter fun o => !confl o.fi x.fi) ++ [x]) := by
  unfold addFx
  have : ((L.filter fun o => confl o.fi x.fi).any fun o => decide (o.idx.length = x.idx.length)) = false := by
    rw [Bool.eq_false_iff]
    intro e
    obtain ⟨o, h1, h2⟩ := List.any_eq_true.1 e
    obtain ⟨i, h3, h4⟩ := mem_filter_cfl.1 h1
    exact he i h3 o h4 (by simpa using h2)
  simp only [cs_ne h, no_lt hn, this]
  rfl

/-- The list, q conflicts being left: those from place b on are gone. -/
def Kil (L : List Fx) (n : Fi) (q : Nat) (K : List Fx) : Prop :=
  ∃ b, b ≤ L.length ∧ cfl L n b = (cfl L n L.length).take q ∧ K = L.take b ++ (L.drop b).filter fun o => !confl o.fi n
theorem Kil.start (L : List Fx) (n : Fi) : Kil L n (cfl L n L.length).length L := ⟨L.length, Nat.le_refl _, by simp, by simp⟩
theorem cfl_cut (L : List Fx) (n : Fi) : ∀ (b : Nat), b ≤ L.length → ∀ i l, cfl L n b = l ++ [i] → i < b ∧ cfl L n i = l ∧ (∃ o, L[i]? = some o ∧ confl o.fi n = true) ∧ ∀ k, i < k → k < b → ∀ o, L[k]? = some o → confl o.fi n = false
  | 0, _, i, l, h => by
    have : cfl L n 0 = [] := rfl
    rw [this] at h
    simp at h
  | b + 1, hb, i, l, h => by
    obtain ⟨o, ho⟩ : ∃ o, L[b]? = some o := ⟨_, List.getElem?_eq_getElem (by omega)⟩
    rw [cfl_succ L n b o ho] at h
    split at h
    · rename_i hc
      obtain ⟨h1, h2⟩ := List.append_inj' h rfl
      simp at h2
      subst h2
      exact ⟨by omega, h1, ⟨o, ho, hc⟩, fun k h3 h4 => by omega⟩
    · rename_i hc
      obtain ⟨h1, h2, h3, h4⟩ := cfl_cut L n b (by omega) i l h
      refine ⟨by omega, h2, h3, fun k h5 h6 o' ho' => ?_⟩
      by_cases hk : k = b
      · subst hk
        rw [ho] at ho'
        obtain rfl := Option.some.inj ho'
        simpa using hc
      · exact h4 k h5 (by omega) o' ho'
theorem filter_all {α : Type} {p : α → Bool} {l : List α} (h : ∀ (k : Nat) (x : α), l[k]? = some x → p x = true) : l.filter p = l := by
  rw [List.filter_eq_self]
  intro a ha
  obtain ⟨i, hi, rfl⟩ := List.mem_iff_getElem.1 ha
  exact h i _ (List.getElem?_eq_getElem hi)
theorem Kil.step {L : List Fx} {n : Fi} {q i : Nat} {K : List Fx} (h : Kil L n (q + 1) K) (hi : (cfl L n L.length)[q]? = some i) : i < K.length ∧ Kil L n q (K.eraseIdx i) := by
  obtain ⟨b, hb, h1, rfl⟩ := h
  rw [List.take_add_one, hi] at h1
  obtain ⟨h2, h3, ⟨o, ho, hc⟩, h4⟩ := cfl_cut L n b hb i _ h1
  have hlt : i < (L.take b).length := by rw [List.length_take]; omega
  refine ⟨by rw [List.length_append]; omega, i, by omega, h3, ?_⟩
  rw [List.eraseIdx_append_of_lt_length hlt, List.eraseIdx_eq_take_drop_succ, List.take_take, Nat.min_eq_left (by omega), List.append_assoc]
  congr 1
  have e1 : L.drop i = o :: ((L.take b).drop (i + 1) ++ L.drop b) := by
    rw [drop_cons ho]
    congr 1
    rw [List.drop_take]
    conv => lhs; rw [← List.take_append_drop (b - (i + 1)) (L.drop (i + 1))]
    rw [List.drop_drop, show i + 1 + (b - (i + 1)) = b by omega]
  rw [e1, List.filter_cons, hc]
  simp only [Bool.not_true, Bool.false_eq_true, if_false]
  rw [List.filter_append]
  congr 1
  refine (filter_all fun k x hx => ?_).symm
  rw [List.getElem?_drop, List.getElem?_take] at hx
  split at hx
  · rw [h4 (i + 1 + k) (by omega) (by omega) x hx]
    rfl
  · cases hx
theorem Kil.done {L : List Fx} {n : Fi} {K : List Fx} (h : Kil L n 0 K) : K = L.filter fun o => !confl o.fi n := by
  obtain ⟨b, hb, h1, rfl⟩ := h
  simp only [List.take_zero] at h1
  conv => rhs; rw [← List.take_append_drop b L]
  rw [List.filter_append]
  congr 1
  refine (filter_all fun k x hx => ?_).symm
  rw [List.getElem?_take] at hx
  split at hx
  · rename_i hk
    have : confl x.fi n = false := by
      rw [Bool.eq_false_iff]
      intro e
      have : k ∈ cfl L n b := cfl_mem.2 ⟨hk, x, hx, e⟩
      rw [h1] at this
      cases this
    rw [this]
    rfl
  · cases hx
theorem Kil.len {L : List Fx} {n : Fi} {q : Nat} {K : List Fx} (h : Kil L n q K) : K.length ≤ L.length := by
  obtain ⟨b, hb, h1, rfl⟩ := h
  have : ((L.drop b).filter fun o => !confl o.fi n).length ≤ (L.drop b).length := List.length_filter_le _ _
  rw [List.length_append, List.length_take]
  simp at this
  omega
end Go.Proofs.YtnmgocbmofbppaaGreatDoor
