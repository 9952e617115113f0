/- The text of a type. What the rules of one field say: plain definitions. What the walk of structFieldInfo stands on. The small functions over types. The graph at one type: what its block holds. FieldByIndex. -/
import Derived.Test.YtnmgocbmofbppaaGreatDoorA10
import Derived.Test.YtnmgocbmofbppaaGreatDoorA07
import Derived.Deep.RegionHeld3
import Derived.KernelRfl
import Derived.Outline
import Derived.BigGuardPart
import Derived.Deep.DeepMust
import Derived.Deep.LoopGhost
import Derived.Deep.DeepCutAuto
import Derived.Deep.CutBlock
import Derived.Deep.QuietTactic
import Derived.BigQuiet
import Derived.Lib.Hide
import Derived.WalkSpells
import Derived.Deep.Light
import Derived.Deep.RegionWith
import Derived.WalkLawsBesides
import Derived.StillTailTactics

set_option linter.unusedVariables false
set_option linter.unusedSimpArgs false

namespace Go.Proofs.YtnmgocbmofbppaaGreatDoor
open Go.RowKit

/-- The named types' graph, whatever Info is. -/
structure GNm (n0 : Nat) (w : World) (am : Am) (l : AL Ty) : Prop where
  ok : NdOk l
  named : ∀ s b, am s = some b → n0 ≤ b ∧ b < w.heap.size ∧ ∃ T, l.get s = some T ∧ RN w (Fr n0 w am) am s T b
theorem GNm.keep {n0 : Nat} {w w' : World} {am : Am} {l : AL Ty} (h : GNm n0 w am l) (hx : Ext (fun _ => False) w w') : GNm n0 w' am l := by
  have hs := hx.size
  refine ⟨h.ok, fun s b e => ?_⟩
  obtain ⟨h1, h2, T, h3, h4⟩ := h.named s b e
  exact ⟨h1, by omega, T, h3, h4.keep (fun i hi => ⟨⟨hi.1, by have := hi.2.1; omega, hi.2.2⟩, hx.block i hi.2.1 (fun e => e)⟩) (fun _ _ e => e) (fun i _ => World.cell?_of_block (hx.block b h2 (fun e => e)))⟩
theorem Graph.gnm {n0 : Nat} {w : World} {am : Am} {l : AL Ty} (h : Graph n0 w am l) : GNm n0 w am l :=
  ⟨h.ok, fun s b e => by
    obtain ⟨_, T, h3, h4⟩ := h.done s b e
    exact ⟨(h.new s b e).1, (h.new s b e).2, T, h3, h4⟩⟩
theorem GNm.name {n0 : Nat} {w : World} {am : Am} {l : AL Ty} (h : GNm n0 w am l) {s : ByteArray} {b : Nat} (e : am s = some b) : s.size ≠ 0 ∧ s.size ≤ 100 ∧ w.cell? ⟨b, 1, none⟩ = some (.string s) ∧ ∃ m, w.cell? ⟨b, 6, none⟩ = some (.int .i64 m) ∧ m ≠ 4 ∧ m ≠ 5 := by
  obtain ⟨_, _, T, h3, h4, e', ke, A, fl, fc, hT, _⟩ := h.named s b e
  have hm := get_mem l s T h3
  have hn := h.ok.nm _ hm
  have hk : NdKind T.kind := h.ok.kd _ hm
  unfold NdKind at hk
  refine ⟨hn.1, hn.2, hT.c1, _, hT.c6, ?_, ?_⟩
  · unfold markOf
    repeat' split
    all_goals omega
  · unfold markOf
    repeat' split
    all_goals omega
theorem not_empty {s : ByteArray} (h : s.size ≠ 0) : s.toList.isEmpty = false := by
  rw [Bool.eq_false_iff]
  intro e
  have e2 : s.toList = (⟨#[]⟩ : ByteArray).toList := by simpa using e
  exact h (by rw [AL.toList_inj e2]; rfl)

/-- The text of a type: a bound of its size. -/
def StrP (w : World) (n : Nat) (e : Ending) (w' : World) : Prop := ∃ s, e = .returned (.string s) ∧ s.size ≤ n ∧ Below w.heap.size w w'

set_option maxHeartbeats 1600000 in
set_option maxRecDepth 100000 in
theorem String_named (s : ByteArray) (b : Nat) (m : Int) (w : World) (h0 : s.size ≠ 0) (h1 : s.size ≤ 100) (hc : w.cell? ⟨b, 1, none⟩ = some (.string s)) (hm : w.cell? ⟨b, 6, none⟩ = some (.int .i64 m)) :
    Calls Tryz.prog 27 #[.pointer (some ⟨b, 0, none⟩)] w (StrP w 120) := by
  have hne := not_empty h0
  by_cases h4 : m = 4
  · subst h4
    go_enter Tryz.func27, Tryz.ntmps27
    go_wp2
    go_ret
    exact ⟨_, rfl, by decide, Below.refl _ _⟩
  · by_cases h5 : m = 5
    · subst h5
      go_enter Tryz.func27, Tryz.ntmps27
      go_wp2
      go_ret
      exact ⟨_, rfl, by decide, Below.refl _ _⟩
    · go_enter Tryz.func27, Tryz.ntmps27
      go_wp2
      go_ret
      exact ⟨_, rfl, by omega, Below.refl _ _⟩
theorem below_drew {w w' : World} (h : Below w.drew.heap.size w.drew w') : Below w.heap.size w w' := ⟨h.os, h.tape, h.output, h.size, h.block⟩
theorem StrP.mono {w w' : World} {n n' : Nat} {e : Ending} (h : StrP w n e w') (hn : n ≤ n') : StrP w n' e w' := by
  obtain ⟨s, h1, h2, h3⟩ := h
  exact ⟨s, h1, by omega, h3⟩
theorem String_leaf {w : World} {ok : Nat → Prop} {k : Int} {b : Nat} (h : Leaf w ok k b) : Calls Tryz.prog 27 #[.pointer (some ⟨b, 0, none⟩)] w (StrP w 120) := by
  obtain ⟨_, nm, h1, h2, h3, _⟩ := h
  exact String_named nm b 0 w h1 h2 h3.c1 h3.c6

theorem RF.at_ {w : World} {ok : Nat → Prop} {am : Am} : ∀ (fs : List Fl) (A : Option Addr) (i j : Nat) (f : Fl), RF w ok am fs A i → fs[j]? = some f →
    ∃ fb x, A = some ⟨fb, 0, none⟩ ∧ ok fb ∧ FC w fb ((i + j) * 4) f.name f.tag x f.emb ∧ RT w ok am f.t x
  | [], _, _, _, _, _, h => by simp at h
  | g :: fs, A, i, 0, f, ⟨⟨fb, h1, h2, h3⟩, _⟩, e => by
    simp at e
    subst e
    obtain ⟨a, b, c, d⟩ := g
    unfold RFl at h3
    obtain ⟨x, h4, h5⟩ := h3
    exact ⟨fb, x, h1, h2, h4, h5⟩
  | g :: fs, A, i, j + 1, f, ⟨_, h⟩, e => by
    have := RF.at_ fs A (i + 1) j f h (by simpa using e)
    rwa [show i + 1 + j = i + (j + 1) by omega] at this
theorem RF.fkeep {n0 : Nat} {w w' : World} {am : Am} {fs : List Fl} {A : Option Addr} {i : Nat} (h : RF w (Fr n0 w am) am fs A i) (hx : Ext (fun _ => False) w w') : RF w' (Fr n0 w' am) am fs A i := by
  have hs := hx.size
  exact RF.keep (fun i hi => ⟨⟨hi.1, by have := hi.2.1; omega, hi.2.2⟩, hx.block i hi.2.1 (fun e => e)⟩) (fun _ _ e => e) _ _ _ h
theorem szf_snoc (fs : List Fl) (j : Nat) (f : Fl) (h : fs[j]? = some f) : szf (fs.take (j + 1)) = szf (fs.take j) + (f.name.size + f.tag.size + f.t.sz) ∧ szf (fs.take (j + 1)) ≤ szf fs := by
  constructor
  · rw [List.take_add_one, h]
    rw [szf_append]
    obtain ⟨a, b, c, d⟩ := f
    simp [szf, Fl.sz, Fl.name, Fl.tag, Fl.t]
  · conv => rhs; rw [← List.take_append_drop (j + 1) fs]
    rw [szf_append]
    omega
set_option maxHeartbeats 1600000 in
set_option maxRecDepth 100000 in
theorem String_any {n0 B : Nat} {am : Am} {l : AL Ty} : ∀ (n : Nat) (T : Ty) (b : Nat) (w : World), T.sz ≤ n → T.sz ≤ 2000 → T.wf → GNm n0 w am l → Tabs B w → B ≤ w.heap.size → RT w (Fr n0 w am) am T b →
    Calls Tryz.prog 27 #[.pointer (some ⟨b, 0, none⟩)] w (StrP w (260 * T.sz - 10)) := by
  intro n
  induction n with
  | zero => intro T b w h; have := T.sz_pos; omega
  | succ n ih =>
    intro T b w hsz hsz2 hwf hg ht hB hr
    have hpos := T.sz_pos
    obtain ⟨k, m, s, of, fs⟩ := T
    unfold RT at hr
    split at hr
    · obtain ⟨h1, h2, h3, q, h4, _, _⟩ := hg.name hr
      exact (String_named s b q w h1 h2 h3 h4).mono fun e w' h => h.mono (by omega)
    · rename_i hk14
      obtain ⟨_, _, nm, hn, hn2, e, ke, A, fl, fc, hT, hO, hE, h13, hF⟩ := hr
      by_cases hnm : nm.size ≠ 0
      · exact (String_named nm b _ w hnm hn2 hT.c1 hT.c6).mono fun e w' h => h.mono (by omega)
      · have hk := hn.1 (by omega)
        obtain rfl : nm = ⟨#[]⟩ := eq_empty (by omega)
        have hm0 : markOf k = 0 := by
          unfold markOf
          rw [if_neg (by omega), if_neg (by omega), if_neg (by omega)]
        have ⟨c0, c1, c2, c3, c4, c5, c6⟩ := hT
        rw [hm0] at c6
        have IH := Lib.hid ih
        have HG := Lib.hid hg
        have HT := Lib.hid ht
        have HO := Lib.hid hO
        have HE := Lib.hid hE
        have HF := Lib.hid hF
        have HTB := Lib.hid hT
        have H13 := Lib.hid h13
        clear ih hg ht hO hE hF hn hT h13
        have hcase : k = 6 ∨ k = 9 ∨ k = 10 ∨ k = 11 ∨ k = 12 ∨ k = 13 := by omega
        rcases hcase with rfl | rfl | rfl | rfl | rfl | rfl
        · have c0 : w.cell? ⟨b, 0, none⟩ = some (.int .u8 13) := c0
          go_enter Tryz.func27, Tryz.ntmps27
          go_wp2
          go_ret
          exact ⟨_, rfl, by show 12 ≤ _; omega, Below.refl _ _⟩
        · have c0 : w.cell? ⟨b, 0, none⟩ = some (.int .u8 14) := c0
          obtain ⟨t, rfl, hwt⟩ := wf_of_ptr (Or.inl hwf) (by omega)
          obtain ⟨x, rfl, hx⟩ := HE.out
          have c2 : w.cell? ⟨b, 2, none⟩ = some (.pointer (some ⟨x, 0, none⟩)) := c2
          have hst : t.sz + 1 ≤ (Ty.mk 9 m s [t] fs).sz := by simp [Ty.sz, szs]; omega
          have HX := Lib.hid (IH.out t x w (by omega) (by omega) hwt HG.out HT.out hB hx)
          clear hx
          go_enter Tryz.func27, Tryz.ntmps27
          go_wp2_with (go_at_call 27; refine HX.out.mono ?_; rintro e w2 ⟨r, rfl, hr, hb⟩; have HB2 := Lib.hid hb; clear hb)
          go_ret
          exact ⟨_, rfl, by rw [ByteArray.size_append]; have : (⟨#[91, 93]⟩ : ByteArray).size = 2 := rfl; omega, HB2.out⟩
        · have c0 : w.cell? ⟨b, 0, none⟩ = some (.int .u8 15) := c0
          obtain ⟨t, rfl, hwt⟩ := wf_of_ptr (Or.inl hwf) (by omega)
          obtain ⟨x, rfl, hx⟩ := HE.out
          have hst : t.sz + 1 ≤ (Ty.mk 10 m s [t] fs).sz := by simp [Ty.sz, szs]; omega
          have hpt := t.sz_pos
          have c2 : w.drew.cell? ⟨b, 2, none⟩ = some (.pointer (some ⟨x, 0, none⟩)) := c2
          have c4 : w.drew.cell? ⟨b, 4, none⟩ = some (.int .i64 m) := c4
          have hbw : b < w.heap.size := World.block_lt_of_cell? w _ c0
          have hX : ∀ W, Below w.heap.size w W → Calls Tryz.prog 27 #[.pointer (some ⟨x, 0, none⟩)] W (StrP W (260 * t.sz - 10)) ∧ W.cell? ⟨b, 2, none⟩ = some (.pointer (some ⟨x, 0, none⟩)) ∧ W.cell? ⟨b, 4, none⟩ = some (.int .i64 m) := fun W hb =>
            ⟨IH.out t x W (by omega) (by omega) hwt (HG.out.keep (Ext.of_below hb)) (HT.out.keep (hb.mono hB)) (Nat.le_trans hB hb.size) (hx.fkeep (Ext.of_below hb)), (World.cell?_of_block (hb.block b hbw)).trans HTB.out.c2, (World.cell?_of_block (hb.block b hbw)).trans HTB.out.c4⟩
          have HX := Lib.hid hX
          clear hX hx
          go_enter Tryz.func27, Tryz.ntmps27
          go_upto_region 13 with fail
          go_region_held3 (fun w' => w'.cell? ⟨b, 2, none⟩ = some (.pointer (some ⟨x, 0, none⟩)) ∧ w'.cell? ⟨b, 4, none⟩ = some (.int .i64 m))
            (first | exact ⟨c2, c4⟩ | exact ⟨m2, m3⟩ | exact ⟨k2, k3⟩)
            (first
            | (go_at_call 27; refine HX2.out.mono ?_; rintro e w3 ⟨r2, rfl, hr2, hb3⟩; have m2 := (HX.out w3 (HB2.out.trans (hb3.mono HB2.out.size))).2.1; have m3 := (HX.out w3 (HB2.out.trans (hb3.mono HB2.out.size))).2.2; have HB3 := Lib.hid hb3; have q3 : ¬ (9223372036854775807 < 1 + r.size + 1 + r2.size) := (by omega); clear hb3)
            | (go_at_call 47; refine (Itoa_any m _).mono ?_; rintro e w2 ⟨r, rfl, hr, hb⟩; have k2 := (HX.out w2 (below_drew hb)).2.1; have k3 := (HX.out w2 (below_drew hb)).2.2; have HX2 := Lib.hid (HX.out w2 (below_drew hb)).1; have HB2 := Lib.hid (below_drew hb); have q1 : ¬ (9223372036854775807 < 1 + r.size) := (by omega); have q2 : ¬ (9223372036854775807 < 1 + r.size + 1) := (by omega); clear hb))
          all_goals
            go_wp2_with fail
            go_ret
            exact ⟨_, rfl, by simp only [ByteArray.size_append]; have : (⟨#[91]⟩ : ByteArray).size = 1 := rfl; have : (⟨#[93]⟩ : ByteArray).size = 1 := rfl; omega, HB2.out.trans (HB3.out.mono HB2.out.size)⟩
        · have c0 : w.cell? ⟨b, 0, none⟩ = some (.int .u8 16) := c0
          obtain ⟨x, y, rfl, rfl, hx, hy⟩ := HO.out.1 rfl
          have hx2 := hx.2
          have c2 : w.drew.cell? ⟨b, 2, none⟩ = some (.pointer (some ⟨x, 0, none⟩)) := c2
          have c3 : w.drew.cell? ⟨b, 3, none⟩ = some (.pointer (some ⟨y, 0, none⟩)) := c3
          have hbw : b < w.heap.size := World.block_lt_of_cell? w _ c0
          have hX : ∀ W, Below w.heap.size w W → Calls Tryz.prog 27 #[.pointer (some ⟨x, 0, none⟩)] W (StrP W 120) ∧ W.cell? ⟨b, 2, none⟩ = some (.pointer (some ⟨x, 0, none⟩)) ∧ W.cell? ⟨b, 3, none⟩ = some (.pointer (some ⟨y, 0, none⟩)) := fun W hb =>
            ⟨String_leaf (ok := fun i => i < W.heap.size) (hx.keep fun i hi => ⟨by have := hi.2.1; have := hb.size; omega, hb.block i hi.2.1⟩), (World.cell?_of_block (hb.block b hbw)).trans HTB.out.c2, (World.cell?_of_block (hb.block b hbw)).trans HTB.out.c3⟩
          have hY := String_leaf hy
          have hY' : Calls Tryz.prog 27 #[.pointer (some ⟨y, 0, none⟩)] w.drew (StrP w.drew 120) := String_leaf (ok := fun i => i < w.heap.size) (hy.keep fun i hi => ⟨hi.2.1, rfl⟩)
          have HX := Lib.hid hX
          have HY := Lib.hid hY'
          clear hX hY hY' hx hy
          go_enter Tryz.func27, Tryz.ntmps27
          go_upto_region 15 with fail
          go_region_held3 (fun w' => w'.cell? ⟨b, 2, none⟩ = some (.pointer (some ⟨x, 0, none⟩)) ∧ w'.cell? ⟨b, 3, none⟩ = some (.pointer (some ⟨y, 0, none⟩)))
            (first | exact ⟨c2, c3⟩ | exact ⟨m2, m3⟩ | exact ⟨k2, k3⟩)
            (first
            | (go_at_call 27; refine HX2.out.mono ?_; rintro e w3 ⟨r2, rfl, hr2, hb3⟩; have m2 := (HX.out w3 (HB2.out.trans (hb3.mono HB2.out.size))).2.1; have m3 := (HX.out w3 (HB2.out.trans (hb3.mono HB2.out.size))).2.2; have HB3 := Lib.hid hb3; have q3 : ¬ (9223372036854775807 < 4 + r.size + 1 + r2.size) := (by omega); clear hb3)
            | (go_at_call 27; refine HY.out.mono ?_; rintro e w2 ⟨r, rfl, hr, hb⟩; have k2 := (HX.out w2 (below_drew hb)).2.1; have k3 := (HX.out w2 (below_drew hb)).2.2; have HX2 := Lib.hid (HX.out w2 (below_drew hb)).1; have HB2 := Lib.hid (below_drew hb); have q1 : ¬ (9223372036854775807 < 4 + r.size) := (by omega); have q2 : ¬ (9223372036854775807 < 4 + r.size + 1) := (by omega); clear hb))
          all_goals
            go_wp2_with fail
            go_ret
            exact ⟨_, rfl, by simp only [ByteArray.size_append]; have : (⟨#[109, 97, 112, 91]⟩ : ByteArray).size = 4 := rfl; have : (⟨#[93]⟩ : ByteArray).size = 1 := rfl; omega, HB2.out.trans (HB3.out.mono HB2.out.size)⟩
        · have c0 : w.cell? ⟨b, 0, none⟩ = some (.int .u8 17) := c0
          obtain ⟨t, rfl, hwt⟩ := wf_of_ptr (Or.inl hwf) (by omega)
          obtain ⟨x, rfl, hx⟩ := HE.out
          have c2 : w.cell? ⟨b, 2, none⟩ = some (.pointer (some ⟨x, 0, none⟩)) := c2
          have hst : t.sz + 1 ≤ (Ty.mk 12 m s [t] fs).sz := by simp [Ty.sz, szs]; omega
          have HX := Lib.hid (IH.out t x w (by omega) (by omega) hwt HG.out HT.out hB hx)
          clear hx
          go_enter Tryz.func27, Tryz.ntmps27
          go_wp2_with (go_at_call 27; refine HX.out.mono ?_; rintro e w2 ⟨r, rfl, hr, hb⟩; have HB2 := Lib.hid hb; clear hb)
          go_ret
          exact ⟨_, rfl, by rw [ByteArray.size_append]; have : (⟨#[42]⟩ : ByteArray).size = 1 := rfl; omega, HB2.out⟩
        · have c0 : w.cell? ⟨b, 0, none⟩ = some (.int .u8 18) := c0
          obtain ⟨rfl, _, _⟩ := H13.out rfl
          have hszT : 1 + szf fs ≤ (Ty.mk 13 m s of fs).sz := by simp only [Ty.sz]; omega
          have hlen := szf_len fs
          have hwfs : wff fs := by unfold Ty.wf at hwf; exact hwf.2.2.2.2
          by_cases hfs : fs.length = 0
          · go_enter Tryz.func27, Tryz.ntmps27
            go_wp2
            go_ret
            exact ⟨_, rfl, by show 9 ≤ _; omega, Below.refl _ _⟩
          · go_enter Tryz.func27, Tryz.ntmps27
            go_wp2_with fail
            go_loopw [91, 3] (fun s91 s3 wr => ∃ (j : Nat) (acc : ByteArray), s91 = .int .i64 j ∧ s3 = .string acc ∧ j ≤ fs.length ∧ acc.size ≤ 10 + 260 * szf (fs.take j) ∧ Below w.heap.size w wr) (fun s91 _ _ => fs.length - (intOf s91).toNat)
            case atStart => exact ⟨0, _, rfl, rfl, Nat.zero_le _, by show 8 ≤ _; omega, Below.refl _ _⟩
            case round =>
              obtain ⟨j, acc, rfl, rfl, hj, hacc, hb⟩ := hrel
              by_cases hlt : j < fs.length
              · obtain ⟨f, hf⟩ : ∃ f, fs[j]? = some f := ⟨_, List.getElem?_eq_getElem hlt⟩
                obtain ⟨hs1, hs2⟩ := szf_snoc fs j f hf
                have hpt := f.t.sz_pos
                have hwft : f.t.wf := (mem_sz (List.mem_of_getElem? hf)).2 hwfs
                have hF := HF.out.fkeep (Ext.of_below hb)
                obtain ⟨fb, x, rfl, hok, hFC, hx⟩ := RF.at_ fs A 0 j f hF hf
                rw [Nat.zero_add] at hFC
                have ⟨d0, d1, d2, d3⟩ := hFC
                have hX : ∀ o, Calls Tryz.prog 27 #[.pointer (some ⟨x, 0, none⟩)] (wr.alloc o) (StrP (wr.alloc o) (260 * f.t.sz - 10)) := fun o =>
                  IH.out f.t x (wr.alloc o) (by omega) (by omega) hwft (HG.out.keep ((Ext.of_below hb).trans (Ext.alloc _ _))) (HT.out.keep ((hb.alloc hb.size _).mono hB)) (Nat.le_trans hB (by have := hb.size; simp; omega)) (hx.fkeep (Ext.alloc _ _))
                have HX := Lib.hid hX
                have HB := Lib.hid hb
                have hsb := hb.size
                clear hX hF hFC hx hb
                go_upto_if 97 with fail
                have b0 : (wr.alloc (.cells #[.string f.name, .string f.tag, .pointer (some ⟨x, 0, none⟩), .bool f.emb] 116)).cell? ⟨wr.heap.size, 0, none⟩ = some (.string f.name) := by simp [go_sem]
                have b1 : (wr.alloc (.cells #[.string f.name, .string f.tag, .pointer (some ⟨x, 0, none⟩), .bool f.emb] 116)).cell? ⟨wr.heap.size, 1, none⟩ = some (.string f.tag) := by simp [go_sem]
                have b2 : (wr.alloc (.cells #[.string f.name, .string f.tag, .pointer (some ⟨x, 0, none⟩), .bool f.emb] 116)).cell? ⟨wr.heap.size, 2, none⟩ = some (.pointer (some ⟨x, 0, none⟩)) := by simp [go_sem]
                have b3 : (wr.alloc (.cells #[.string f.name, .string f.tag, .pointer (some ⟨x, 0, none⟩), .bool f.emb] 116)).cell? ⟨wr.heap.size, 3, none⟩ = some (.bool f.emb) := by simp [go_sem]
                have hX1 := HX.out (.cells #[.string f.name, .string f.tag, .pointer (some ⟨x, 0, none⟩), .bool f.emb] 116)
                have hB1 := HB.out.alloc hsb (.cells #[.string f.name, .string f.tag, .pointer (some ⟨x, 0, none⟩), .bool f.emb] 116)
                have hT1 := HT.out.keep (hB1.mono hB)
                have hs1' : wr.heap.size < (wr.alloc (.cells #[.string f.name, .string f.tag, .pointer (some ⟨x, 0, none⟩), .bool f.emb] 116)).heap.size := by simp
                generalize wr.alloc (.cells #[.string f.name, .string f.tag, .pointer (some ⟨x, 0, none⟩), .bool f.emb] 116) = W1 at b0 b1 b2 b3 hX1 hB1 hT1 hs1' ⊢
                have HX1 := Lib.hid hX1
                have HB1 := Lib.hid hB1
                have HT1 := Lib.hid hT1
                clear hX1 hB1 hT1 HX d0 d1 d2 d3
                go_cut [3] (fun s3 wx => ∃ acc2, s3 = .string acc2 ∧ acc2.size ≤ acc.size + 1 ∧ W1 = wx)
                case first =>
                  by_cases h0 : 0 < j
                  · go_wp2_with fail
                    go_meet
                    exact ⟨_, rfl, by rw [ByteArray.size_append]; exact Nat.le_refl _, rfl⟩
                  · go_wp2_with fail
                    go_meet
                    exact ⟨_, rfl, by omega, rfl⟩
                case rest =>
                  obtain ⟨acc2, rfl, hacc2, rfl⟩ := hcut
                  go_upto_if 102 with fail
                  go_cut [3] (fun s3 wx => ∃ acc3, s3 = .string acc3 ∧ acc3.size ≤ acc2.size + 1 + f.name.size ∧ W1 = wx)
                  case first =>
                    cases he : f.emb with
                    | true =>
                      rw [he] at b3
                      go_wp2_with fail
                      go_meet
                      exact ⟨_, rfl, by omega, rfl⟩
                    | false =>
                      rw [he] at b3
                      go_wp2_with fail
                      go_meet
                      exact ⟨_, rfl, by simp only [ByteArray.size_append]; have : (⟨#[32]⟩ : ByteArray).size = 1 := rfl; omega, rfl⟩
                  case rest =>
                    obtain ⟨acc3, rfl, hacc3, rfl⟩ := hcut
                    go_wp2_with (go_at_call 27; refine HX1.out.mono ?_; rintro e w2 ⟨r, rfl, hr, hb2⟩; refine Hid.out ?_)
                    refine Lib.hid ?_
                    have b1 : w2.cell? ⟨wr.heap.size, 1, none⟩ = some (.string f.tag) := (World.cell?_of_block (hb2.block _ hs1')).trans b1
                    have hB2 := HB1.out.trans (hb2.mono HB1.out.size)
                    have hT2 := HT1.out.keep (hb2.mono (by have := HB1.out.size; omega))
                    obtain ⟨T, hT2⟩ := hT2
                    obtain ⟨hT3, hT4, _⟩ := hT2 w2 (Below.refl _ _)
                    have HQ := Lib.hid (Quote_any T f.tag (by omega) w2 hT3 hT4)
                    have HB2 := Lib.hid hB2
                    clear hB2 hT2 hT3 hT4 hb2
                    by_cases htag : f.tag.size = 0
                    · have hte := eq_empty htag
                      rw [hte] at b1
                      go_wp2_with fail
                      go_roundw
                      case rel => exact ⟨j + 1, _, by go_num, rfl, by omega, by simp only [ByteArray.size_append]; have : (⟨#[32]⟩ : ByteArray).size = 1 := rfl; omega, HB2.out⟩
                      case measure => simp [intOf]; omega
                    · have hne := not_empty htag
                      go_wp2_with (go_at_call 48; refine HQ.out.mono ?_; rintro e w3 ⟨r3, rfl, hr3, hb3⟩; have HB3 := Lib.hid hb3; clear hb3)
                      go_roundw
                      case rel => exact ⟨j + 1, _, by go_num, rfl, by omega, by simp only [ByteArray.size_append]; have : (⟨#[32]⟩ : ByteArray).size = 1 := rfl; omega, HB2.out.trans (HB3.out.mono HB2.out.size)⟩
                      case measure => simp [intOf]; omega
              · obtain rfl : j = fs.length := by omega
                rw [List.take_length] at hacc
                have HB := Lib.hid hb
                clear hb
                go_wp2_with fail
                go_ret
                exact ⟨_, rfl, by simp only [ByteArray.size_append]; have : (⟨#[32, 125]⟩ : ByteArray).size = 2 := rfl; omega, HB.out⟩
end Go.Proofs.YtnmgocbmofbppaaGreatDoor
namespace Go.Proofs.YtnmgocbmofbppaaGreatDoor
open Go.RowKit

abbrev xmlNameL : List UInt8 := [88, 77, 76, 78, 97, 109, 101]
abbrev fOr (x y : Int) : Int := bits .or .i64 x y
abbrev fAnd (x y : Int) : Int := bits .and .i64 x y
/-- One flag of a tag. -/
def flagOf (f : Int) (s : ByteArray) : Int :=
  if s.toList == [97, 116, 116, 114] then fOr f 2 else if s.toList == [99, 100, 97, 116, 97] then fOr f 4 else if s.toList == [99, 104, 97, 114, 100, 97, 116, 97] then fOr f 8
  else if s.toList == [105, 110, 110, 101, 114, 120, 109, 108] then fOr f 16 else if s.toList == [99, 111, 109, 109, 101, 110, 116] then fOr f 32 else if s.toList == [97, 110, 121] then fOr f 64
  else if s.toList == [111, 109, 105, 116, 101, 109, 112, 116, 121] then fOr f 128 else f
/-- The flags' mode, if it may stand; xn: the field is called XMLName; te: the tag's first part is empty. -/
def modeOk (xn te : Bool) (f : Int) : Int × Bool :=
  let m := fAnd f 127
  if m = 0 then (fOr f 1, true) else if m = 2 ∨ m = 4 ∨ m = 8 ∨ m = 16 ∨ m = 32 ∨ m = 64 ∨ m = 66 then (f, !(xn || (!te && decide (m ≠ 2)))) else (f, false)
def anyOf (f : Int) : Int := if fAnd f 127 = 64 then fOr f 1 else f
def validOf (xn te : Bool) (f : Int) : Int × Bool :=
  (anyOf (modeOk xn te f).1, (modeOk xn te f).2 && !(decide (fAnd (anyOf (modeOk xn te f).1) 128 ≠ 0) && decide (fAnd (anyOf (modeOk xn te f).1) 3 = 0)))
/-- A field's rules. -/
structure Fi where
  name : ByteArray
  xmlns : ByteArray
  flags : Int
  parents : List ByteArray
/-- The name of elements of a type, by its field XMLName. -/
abbrev Lk := Option (ByteArray × ByteArray)
/-- The namespace and the rest of a tag. -/
def nsOf (tag : ByteArray) : ByteArray × ByteArray := match cutOf tag ⟨#[32]⟩ with
  | some p => p
  | none => (⟨#[]⟩, tag)
/-- The tag's first part, and the flags. -/
def flagsOf (xn : Bool) (tag : ByteArray) : Option (ByteArray × Int) :=
  match splitOf tag ⟨#[44]⟩ with
  | [] => none
  | [_] => some (tag, 1)
  | t :: ts => let v := validOf xn (t.toList.isEmpty) (ts.foldl flagOf 0)
    if v.2 then some (t, v.1) else none
/-- The path and its last name. -/
def pathOf (fname tag : ByteArray) : List ByteArray := match splitOf tag ⟨#[62]⟩ with
  | [] => []
  | p :: ps => (if p.toList.isEmpty then fname else p) :: ps
def sfiX (ns tag : ByteArray) (fl : Int) : Fi := ⟨tag, ns, fl, []⟩
/-- A field whose tag has no name: its type's, or its own. -/
def lkFi (lk : Lk) (name ns : ByteArray) (fl : Int) : Option Fi := match lk with
  | some (ns', nm) => some ⟨nm, ns', fl, []⟩
  | none => some ⟨name, ns, fl, []⟩
/-- The type's name is another one. -/
def lkBad (lk : Lk) (last : ByteArray) : Bool := match lk with
  | some (_, nm) => !(nm.toList == last.toList)
  | none => false
/-- A field with a path. -/
def sfiPath (lk : Lk) (ns : ByteArray) (fl : Int) (ps : List ByteArray) : Option Fi :=
  match ps.getLast? with
  | none => none
  | some last =>
    if last.toList.isEmpty then none
    else if decide (1 < ps.length) && decide (fAnd fl 1 = 0) then none
    else if decide (fAnd fl 1 ≠ 0) && lkBad lk last then none
    else some ⟨last, ns, fl, ps.dropLast⟩
/-- A field, its namespace, name and flags told. -/
def sfi2 (lk : Lk) (name ns t : ByteArray) (fl : Int) (xn : Bool) : Option Fi :=
  if !ns.toList.isEmpty && t.toList.isEmpty then none
  else if xn then some ⟨t, ns, fl, []⟩
  else if t.toList.isEmpty then lkFi lk name ns fl
  else sfiPath lk ns fl (pathOf name t)
def sfi (tg : ByteArray → ByteArray) (lk : Lk) (name tag : ByteArray) : Option Fi :=
  match flagsOf (name.toList == xmlNameL) (nsOf (tg tag)).2 with
  | none => none
  | some (t, fl) => sfi2 lk name (nsOf (tg tag)).1 t fl (name.toList == xmlNameL)
theorem sfi_eq {tg : ByteArray → ByteArray} {lk : Lk} {name tag ns t1 t : ByteArray} {fl : Int} {xn : Bool} (h : nsOf (tg tag) = (ns, t1)) (h2 : (name.toList == xmlNameL) = xn) (h3 : flagsOf xn t1 = some (t, fl)) : sfi tg lk name tag = sfi2 lk name ns t fl xn := by
  subst h2
  unfold sfi
  simp only [h, h3]
/-- The field XMLName's name, if there is one. -/
def lkOf (tg : ByteArray → ByteArray) : List Fl → Lk
  | [] => none
  | f :: fs => if f.name.toList == xmlNameL then match sfi tg none f.name f.tag with
      | some x => if x.name.toList.isEmpty then none else some (x.xmlns, x.name)
      | none => none
    else lkOf tg fs
/-- The fields of a type behind pointers. -/
def bare : Ty → AL Ty → List Fl
  | .mk k _ s of fs, l => if k = 14 then (envT l s).fields else if k = 13 then fs else if k = 12 then (match of with | t :: _ => bare t l | [] => []) else []

/-- Field rules in memory. -/
structure FiV (w : World) (fp : Nat) (x : Fi) (i : Nat) : Prop where
  idx : ∃ ib, w.cell? ⟨fp, 0, none⟩ = some (.slice (some ⟨ib, 0, none⟩) 1 1) ∧ w.cell? ⟨ib, 0, none⟩ = some (.int .i64 i)
  c1 : w.cell? ⟨fp, 1, none⟩ = some (.string x.name)
  c2 : w.cell? ⟨fp, 2, none⟩ = some (.string x.xmlns)
  c3 : w.cell? ⟨fp, 3, none⟩ = some (.int .i64 x.flags)
  c4 : ∃ A c, w.cell? ⟨fp, 4, none⟩ = some (.slice A x.parents.length c) ∧ ∀ j y, x.parents[j]? = some y → ∃ g, A = some ⟨g, 0, none⟩ ∧ w.cell? ⟨g, j, none⟩ = some (.string y)
theorem lt_cell {w : World} {a : Addr} {v : Value} (h : w.cell? a = some v) : a.block < w.heap.size := by
  rcases Nat.lt_or_ge a.block w.heap.size with h1 | h1
  · exact h1
  · unfold World.cell? at h
    rw [Array.getElem?_eq_none h1] at h
    cases h
theorem FiV.keep {w w' : World} {fp i : Nat} {x : Fi} (h : FiV w fp x i) (hb : ∀ b, b < w.heap.size → w'.heap[b]? = w.heap[b]?) : FiV w' fp x i := by
  have hc : ∀ (a : Addr) (v : Value), w.cell? a = some v → w'.cell? a = some v := fun a v e => (World.cell?_of_block (hb a.block (lt_cell e))).trans e
  obtain ⟨ib, h1, h2⟩ := h.idx
  obtain ⟨A, c, h3, h4⟩ := h.c4
  refine ⟨⟨ib, hc _ _ h1, hc _ _ h2⟩, hc _ _ h.c1, hc _ _ h.c2, hc _ _ h.c3, ⟨A, c, hc _ _ h3, fun j y e => ?_⟩⟩
  obtain ⟨g, h5, h6⟩ := h4 j y e
  exact ⟨g, h5, hc _ _ h6⟩
/-- The contract of Get. -/
def TagC (tg : ByteArray → ByteArray) (B : Nat) : Prop :=
  (∀ s, (tg s).size ≤ 3 * s.size) ∧ ∀ (s : ByteArray) (w : World), s.size ≤ 2000 → B ≤ w.heap.size → Tabs B w → Calls Tryz.prog 43 #[.string s, .string ⟨#[120, 109, 108]⟩] w fun e w' => e = .returned (.string (tg s)) ∧ Below w.heap.size w w'
/-- A type has a text, now and later. -/
def StrC (w : World) (b : Nat) : Prop := ∀ w', Below w.heap.size w w' → Calls Tryz.prog 27 #[.pointer (some ⟨b, 0, none⟩)] w' (StrP w' 600000)
theorem StrC.keep {w w' : World} {b : Nat} (h : StrC w b) (hb : Below w.heap.size w w') : StrC w' b := fun w2 h2 => h w2 (hb.trans (h2.mono hb.size))
/-- The contract of lookupXMLName at a type. -/
def LkC (w : World) (b : Nat) (lk : Lk) : Prop := ∀ w', Below w.heap.size w w' → Calls Tryz.prog 67 #[.pointer (some ⟨b, 0, none⟩)] w' fun e w2 => Below w'.heap.size w' w2 ∧ match lk with
  | none => e = .returned (.pointer none)
  | some (ns, nm) => ∃ fp, e = .returned (.pointer (some ⟨fp, 0, none⟩)) ∧ w'.heap.size ≤ fp ∧ w2.cell? ⟨fp, 1, none⟩ = some (.string nm) ∧ w2.cell? ⟨fp, 2, none⟩ = some (.string ns) ∧ nm.size ≤ 10000
theorem errNew_any (s : ByteArray) (w : World) : Calls Tryz.prog 66 #[.string s] w fun e w' => e = .returned (.iface 154 (.pointer (some ⟨w.heap.size, 0, none⟩))) ∧ Below w.heap.size w w' ∧ w'.cell? ⟨w.heap.size, 0, none⟩ = some (.string s) := by
  go_enter Tryz.func66, Tryz.ntmps66
  go_wp2
  go_ret
  exact ⟨rfl, (Below.refl _ _).alloc (Nat.le_refl _) _, by simp [go_sem]⟩
end Go.Proofs.YtnmgocbmofbppaaGreatDoor
namespace Go.Proofs.YtnmgocbmofbppaaGreatDoor
open Go.RowKit

theorem Kind_any (w : World) (b : Nat) (k : Int) (h : w.cell? ⟨b, 0, none⟩ = some (.int .u8 k)) : Calls Tryz.prog 38 #[.pointer (some ⟨b, 0, none⟩)] w fun e w' => e = .returned (.int .u8 k) ∧ w = w' := by
  go_enter Tryz.func38, Tryz.ntmps38
  go_wp2
  go_ret
  exact ⟨rfl, rfl⟩
theorem Elem_any (w : World) (b : Nat) (p : Option Addr) (h : w.cell? ⟨b, 2, none⟩ = some (.pointer p)) : Calls Tryz.prog 44 #[.pointer (some ⟨b, 0, none⟩)] w fun e w' => e = .returned (.pointer p) ∧ w = w' := by
  go_enter Tryz.func44, Tryz.ntmps44
  go_wp2
  go_ret
  exact ⟨rfl, rfl⟩
theorem NumField_any (w : World) (b : Nat) (A : Option Addr) (n c : Nat) (hn : n ≤ 1000000) (h : w.cell? ⟨b, 5, none⟩ = some (.slice A n c)) : Calls Tryz.prog 40 #[.pointer (some ⟨b, 0, none⟩)] w fun e w' => e = .returned (.int .i64 n) ∧ w = w' := by
  go_enter Tryz.func40, Tryz.ntmps40
  go_wp2
  go_ret
  exact ⟨rfl, rfl⟩
theorem IsName_any (w : World) (b : Nat) (m : Int) (h : w.cell? ⟨b, 6, none⟩ = some (.int .i64 m)) : Calls Tryz.prog 39 #[.pointer (some ⟨b, 0, none⟩)] w fun e w' => e = .returned (.bool (m == 4)) ∧ w = w' := by
  go_enter Tryz.func39, Tryz.ntmps39
  go_wp2
  go_ret
  exact ⟨rfl, rfl⟩
theorem Field_any (w : World) (b fb n c j : Nat) (name tag : ByteArray) (t : Nat) (emb : Bool) (hn : n ≤ 1000000) (hj : j < n) (h : w.cell? ⟨b, 5, none⟩ = some (.slice (some ⟨fb, 0, none⟩) n c)) (hF : FC w fb (j * 4) name tag t emb) :
    Calls Tryz.prog 41 #[.pointer (some ⟨b, 0, none⟩), .int .i64 j] w fun e w' => e = .returned (.agg #[.string name, .string tag, .pointer (some ⟨t, 0, none⟩), .bool emb]) ∧ Below w.heap.size w w' := by
  have ⟨f0, f1, f2, f3⟩ := hF
  have hl : fb < w.heap.size := lt_cell f0
  have hb : b < w.heap.size := lt_cell h
  clear hF
  go_enter Tryz.func41, Tryz.ntmps41
  go_wp2
  refine bodyPost_ret (v := .agg #[.string name, .string tag, .pointer (some ⟨t, 0, none⟩), .bool emb]) (by simp [results, Tryz.results41, go_sem]) rfl ⟨rfl, (Below.refl _ _).alloc (Nat.le_refl _) _⟩
/-- A name is exported. -/
def exOf (U : Lib.RTab) (name : ByteArray) : Bool := if Lib.latin1 ((Lib.decodeGo name).1 : Int) then Lib.isUpperL ((Lib.decodeGo name).1 : Int) else Lib.exclGo U ((Lib.decodeGo name).1 : Int)
theorem IsExported_any {U : Lib.RTab} {B : Nat} (name tag : ByteArray) (t : Option Addr) (emb : Bool) (w : World) (hB : B ≤ w.heap.size) (hU : Uni U B w) (hT : Tabs B w) :
    Calls Tryz.prog 42 #[.agg #[.string name, .string tag, .pointer t, .bool emb]] w fun e w' => e = .returned (.bool (exOf U name)) ∧ Below w.heap.size w w' := by
  have hT1 : ∀ o, Lib.Utf8Tabs 6 7 (w.alloc o) := fun o => by
    obtain ⟨T, hT2⟩ := hT
    exact (hT2 _ ((Below.refl B w).alloc hB o)).2.1
  have hdl : ((Lib.decodeGo name).1 : Int) ≤ 2147483647 := by
    unfold Lib.decodeGo
    split
    · decide
    · have := decode_le name 0; omega
  have hk : ∀ w2, Below B w w2 → Calls Tryz.prog 61 #[.int .i32 ((Lib.decodeGo name).1 : Int)] w2 fun e w' => e = .returned (.bool (exOf U name)) ∧ Below w2.heap.size w2 w' := fun w2 hb => by
    obtain ⟨L, D, _, _, hU1, hTT⟩ := hU
    have hq := hTT w2 hb
    exact Tryz.unicode_IsUpper_any U _ w2 (by omega) hdl hq.1 hq.2.2.2 hU1
  have HK := Lib.hid hk
  have HT := Lib.hid hT1
  obtain ⟨q, hq⟩ : ∃ q, exOf U name = q := ⟨_, rfl⟩
  rw [hq] at HK ⊢
  clear hU hT hT1 hk hq
  go_enter Tryz.func42, Tryz.ntmps42
  go_wp2_with (first
    | (go_at_call 60; refine (Tryz.utf8_DecodeRuneInString name _ (by exact HT.out _)).mono ?_; rintro e w2 ⟨rfl, hb2⟩; have HB2 := Lib.hid hb2; clear hb2)
    | (go_at_call 61; refine (HK.out w2 (((Below.refl B w).alloc hB _).trans (HB2.out.mono (by simp; omega)))).mono ?_; rintro e w3 ⟨rfl, hb3⟩; have HB3 := Lib.hid hb3; clear hb3))
  go_ret
  exact ⟨rfl, ((Below.refl _ _).alloc (Nat.le_refl _) _).trans ((HB2.out.mono (by simp)).trans (HB3.out.mono (by have := HB2.out.size; simp at this; omega)))⟩
end Go.Proofs.YtnmgocbmofbppaaGreatDoor
namespace Go.Proofs.YtnmgocbmofbppaaGreatDoor
open Go.RowKit

/-- What stands in the block of a type. -/
structure Head (n0 : Nat) (w : World) (am : Am) (l : AL Ty) (T : Ty) (y : Nat) : Prop where
  kind : ∃ K, w.cell? ⟨y, 0, none⟩ = some (.int .u8 K) ∧ (K = 17 ↔ T.kind = 12) ∧ (K ≠ 18 → bare T l = [] ∨ T.kind = 12) ∧
    (T.kind = 12 → ∃ t x, T.of = [t] ∧ w.cell? ⟨y, 2, none⟩ = some (.pointer (some ⟨x, 0, none⟩)) ∧ RT w (Fr n0 w am) am t x) ∧
    (K = 18 → ∃ A n c, w.cell? ⟨y, 5, none⟩ = some (.slice A n c) ∧ ((n = (bare T l).length ∧ ((bare T l).map Fl.name).Nodup ∧ (∀ f ∈ bare T l, embOk f) ∧ RF w (Fr n0 w am) am (bare T l) A 0) ∨
      (bare T l = [] ∧ n = 2 ∧ ∃ fb, A = some ⟨fb, 0, none⟩ ∧ ∀ i, i < 2 → ∃ name tag t emb, FC w fb (i * 4) name tag t emb ∧ name.size ≤ 5)))
theorem kOf17 {k n : Int} (h : kOf k n = 17) : k = 12 := by
  unfold kOf at h
  repeat' split at h
  all_goals first | assumption | omega
theorem kOf_ne18 {k n : Int} (h : kOf k n ≠ 18) (h1 : 1 ≤ k) (h2 : k ≤ 15) : k ≠ 7 ∧ k ≠ 8 ∧ k ≠ 13 ∧ k ≠ 14 := by
  refine ⟨?_, ?_, ?_, ?_⟩ <;> (rintro rfl; exact h rfl)
theorem kOf18 {k n : Int} (h : kOf k n = 18) (h1 : 1 ≤ k) (h2 : k ≤ 15) : k = 7 ∨ k = 8 ∨ k = 13 ∨ k = 14 := by
  unfold kOf at h
  repeat' split at h
  all_goals omega
theorem head_core {n0 : Nat} {w : World} {am : Am} {T : Ty} {y : Nat} {nm : ByteArray} {e ke : Option Nat} {A : Option Addr} {fl fc : Nat} (hwf : T.wf) (hk14 : T.kind ≠ 14)
    (hT : TB w y (kOf T.kind T.n) nm e ke (if T.kind = 10 then T.n else 0) A fl fc (markOf T.kind)) (hO : Odd w (Fr n0 w am) T.kind e ke A fl) (hE : RE w (Fr n0 w am) am T.of e)
    (h13 : T.kind = 13 → fl = T.fields.length ∧ (T.fields.map Fl.name).Nodup ∧ (∀ f ∈ T.fields, embOk f)) (hF : RF w (Fr n0 w am) am T.fields A 0) :
    ∃ K, w.cell? ⟨y, 0, none⟩ = some (.int .u8 K) ∧ (K = 17 ↔ T.kind = 12) ∧ (K ≠ 18 → T.kind ≠ 13) ∧
    (T.kind = 12 → ∃ t x, T.of = [t] ∧ w.cell? ⟨y, 2, none⟩ = some (.pointer (some ⟨x, 0, none⟩)) ∧ RT w (Fr n0 w am) am t x) ∧
    (K = 18 → ∃ A n c, w.cell? ⟨y, 5, none⟩ = some (.slice A n c) ∧ ((T.kind = 13 ∧ n = T.fields.length ∧ (T.fields.map Fl.name).Nodup ∧ (∀ f ∈ T.fields, embOk f) ∧ RF w (Fr n0 w am) am T.fields A 0) ∨
      (T.kind ≠ 13 ∧ n = 2 ∧ ∃ fb, A = some ⟨fb, 0, none⟩ ∧ ∀ i, i < 2 → ∃ name tag t emb, FC w fb (i * 4) name tag t emb ∧ name.size ≤ 5))) := by
  obtain ⟨k, n, s, of, fs⟩ := T
  have hwf' := hwf
  unfold Ty.wf at hwf'
  obtain ⟨⟨h1, h2⟩, h3, h4, h5, h6⟩ := hwf'
  simp only [Ty.kind, Ty.n, Ty.of, Ty.fields] at *
  refine ⟨kOf k n, hT.c0, ⟨kOf17, fun e => by subst e; rfl⟩, fun h => (kOf_ne18 h h1 h2).2.2.1, fun e12 => ?_, fun h18 => ⟨A, fl, fc, hT.c5, ?_⟩⟩
  · subst e12
    rw [if_pos (by decide)] at h3
    obtain ⟨t, rfl⟩ : ∃ t, of = [t] := List.length_eq_one_iff.1 h3
    obtain ⟨x, rfl, hx⟩ := hE
    exact ⟨t, x, rfl, hT.c2, hx⟩
  · rcases kOf18 h18 h1 h2 with h | h | h | h
    · obtain ⟨hl, fb, hA, _, hc⟩ := hO.2.1 (.inl h)
      refine .inr ⟨by omega, hl, fb, hA, fun i hi => ?_⟩
      obtain ⟨name, tag, t, emb, h7, h8, _⟩ := hc i hi
      exact ⟨name, tag, t, emb, h7, h8⟩
    · obtain ⟨hl, fb, hA, _, hc⟩ := hO.2.1 (.inr h)
      refine .inr ⟨by omega, hl, fb, hA, fun i hi => ?_⟩
      obtain ⟨name, tag, t, emb, h7, h8, _⟩ := hc i hi
      exact ⟨name, tag, t, emb, h7, h8⟩
    · obtain ⟨h7, h8, h9⟩ := h13 h
      exact .inl ⟨h, h7, h8, h9, hF⟩
    · exact absurd h hk14
theorem head_of {n0 : Nat} {w : World} {am : Am} {l : AL Ty} {T : Ty} {y : Nat} (hg : GNm n0 w am l) (hs : NdSz l) (hwf : T.wf) (hr : RT w (Fr n0 w am) am T y) : Head n0 w am l T y := by
  obtain ⟨k, n, s, of, fs⟩ := T
  unfold RT at hr
  split at hr
  · rename_i h14
    subst h14
    obtain ⟨_, _, T, hT, hN⟩ := hg.named s y hr
    have hm := get_mem l s T hT
    obtain ⟨hk14, e, ke, A, fl, fc, hTB, hO, hE, h13, hF⟩ := hN
    have hbare : bare (.mk 14 n s of fs) l = T.fields := by
      unfold bare envT
      rw [hT]
      rfl
    have hkd : NdKind T.kind := hg.ok.kd _ hm
    obtain ⟨K, q1, q2, q3, q4, q5⟩ := head_core (hs _ hm).1 hk14 hTB hO hE h13 hF
    refine ⟨K, q1, ⟨fun h => absurd (q2.1 h) hkd.1, fun h => absurd h (by show (14 : Int) ≠ 12; decide)⟩, fun h => ?_, fun h => absurd h (by show (14 : Int) ≠ 12; decide), fun h => ?_⟩
    · left
      rw [hbare]
      have hwT := (hs _ hm).1
      obtain ⟨k', n', s', of', fs'⟩ := T
      unfold Ty.wf at hwT
      exact hwT.2.2.1 (q3 h)
    · obtain ⟨A, n2, c, h5, h6⟩ := q5 h
      refine ⟨A, n2, c, h5, ?_⟩
      rw [hbare]
      rcases h6 with ⟨_, h7⟩ | ⟨h7, h8⟩
      · exact .inl h7
      · right
        refine ⟨?_, h8⟩
        have hwT := (hs _ hm).1
        obtain ⟨k', n', s', of', fs'⟩ := T
        unfold Ty.wf at hwT
        exact hwT.2.2.1 h7
  · rename_i h14
    obtain ⟨_, _, nm, _, _, e, ke, A, fl, fc, hTB, hO, hE, h13, hF⟩ := hr
    obtain ⟨K, q1, q2, q3, q4, q5⟩ := head_core (T := .mk k n s of fs) hwf h14 hTB hO hE h13 hF
    have hb13 : k = 13 → bare (.mk k n s of fs) l = fs := fun e => by unfold bare; rw [if_neg h14, if_pos e]
    have hbn : k ≠ 13 → k ≠ 12 → bare (.mk k n s of fs) l = [] := fun e1 e2 => by unfold bare; rw [if_neg h14, if_neg e1, if_neg e2]
    refine ⟨K, q1, q2, fun h => ?_, q4, fun h => ?_⟩
    · by_cases h12 : k = 12
      · exact .inr h12
      · exact .inl (hbn (q3 h) h12)
    · obtain ⟨A, n2, c, h5, h6⟩ := q5 h
      refine ⟨A, n2, c, h5, ?_⟩
      rcases h6 with ⟨h7, h8⟩ | ⟨h7, h8⟩
      · rw [hb13 h7]
        exact .inl h8
      · exact .inr ⟨hbn h7 (fun e => by have := q2.2 e; omega), h8⟩
end Go.Proofs.YtnmgocbmofbppaaGreatDoor
namespace Go.Proofs.YtnmgocbmofbppaaGreatDoor
open Go.RowKit

/-- A way through embedded structs. -/
def PathOk (l : AL Ty) : List Fl → List Nat → Prop
  | _, [] => False
  | fs, [x] => x < fs.length
  | fs, x :: y :: r => ∃ f, fs[x]? = some f ∧ f.emb = true ∧ (envT l f.name).kind = 13 ∧ PathOk l (envT l f.name).fields (y :: r)
/-- A struct's fields in its block. -/
structure Fds (n0 : Nat) (w : World) (am : Am) (l : AL Ty) (fs : List Fl) (y : Nat) : Prop where
  c5 : ∃ A c, w.cell? ⟨y, 5, none⟩ = some (.slice A fs.length c) ∧ RF w (Fr n0 w am) am fs A 0
  emb : ∀ f ∈ fs, embOk f
  sz : szf fs ≤ 2000
  wf : wff fs
theorem Fds.keep {n0 : Nat} {w w' : World} {am : Am} {l : AL Ty} {fs : List Fl} {y : Nat} (h : Fds n0 w am l fs y) (hb : Below w.heap.size w w') : Fds n0 w' am l fs y := by
  obtain ⟨A, c, h1, h2⟩ := h.c5
  exact ⟨⟨A, c, (World.cell?_of_block (hb.block y (lt_cell h1))).trans h1, h2.fkeep (Ext.of_below hb)⟩, h.emb, h.sz, h.wf⟩
/-- The block of a named struct. -/
theorem named_fds {n0 : Nat} {w : World} {am : Am} {l : AL Ty} (hg : GNm n0 w am l) (hs : NdSz l) {s : ByteArray} {b : Nat} (e : am s = some b) (hk : (envT l s).kind = 13) : w.cell? ⟨b, 0, none⟩ = some (.int .u8 18) ∧ Fds n0 w am l (envT l s).fields b := by
  obtain ⟨_, _, T, hT, hN⟩ := hg.named s b e
  have hm := hs _ (get_mem l s T hT)
  have he : envT l s = T := by unfold envT; rw [hT]; rfl
  rw [he] at hk ⊢
  obtain ⟨_, e', ke, A, fl, fc, hTB, hO, hE, h13, hF⟩ := hN
  obtain ⟨h1, _, h3⟩ := h13 hk
  have hK : kOf T.kind T.n = 18 := by rw [hk]; rfl
  obtain ⟨k, n, s', of, fs⟩ := T
  have h4 := hm.1
  have h5 := hm.2
  unfold Ty.wf at h4
  simp only [Ty.sz] at h5
  refine ⟨by rw [hTB.c0, hK], ⟨⟨A, fc, ?_, hF⟩, h3, ?_, h4.2.2.2.2⟩⟩
  · rw [hTB.c5, h1]
  · show szf fs ≤ 2000
    omega
/-- The block of an embedded field's type: the named struct's, or a pointer's to it. -/
theorem emb_block {n0 : Nat} {w : World} {am : Am} {l : AL Ty} (hg : GNm n0 w am l) (hs : NdSz l) {f : Fl} {x : Nat} (he : f.emb = true) (ho : embOk f) (hr : RT w (Fr n0 w am) am f.t x) :
    (∃ b, am f.name = some b ∧ x = b ∧ f.t.kind = 14) ∨ ∃ b, am f.name = some b ∧ w.cell? ⟨x, 0, none⟩ = some (.int .u8 17) ∧ w.cell? ⟨x, 2, none⟩ = some (.pointer (some ⟨b, 0, none⟩)) := by
  rcases ho.2 he with ⟨n, of, fs, ht⟩ | ⟨n', s', fs', n, of, fs, ht⟩
  · left
    rw [ht] at hr
    unfold RT at hr
    rw [if_pos rfl] at hr
    exact ⟨x, hr, rfl, by rw [ht]; rfl⟩
  · right
    rw [ht] at hr
    unfold RT at hr
    rw [if_neg (by decide)] at hr
    obtain ⟨_, _, nm, _, _, e, ke, A, fl, fc, hTB, hO, hE, h13, hF⟩ := hr
    obtain ⟨b, rfl, hb⟩ := hE
    unfold RT at hb
    rw [if_pos rfl] at hb
    exact ⟨b, hb, hTB.c0, hTB.c2⟩

theorem path_head {l : AL Ty} {fs : List Fl} {x : Nat} {r : List Nat} (h : PathOk l fs (x :: r)) : ∃ f, fs[x]? = some f ∧ (r ≠ [] → f.emb = true ∧ (envT l f.name).kind = 13 ∧ PathOk l (envT l f.name).fields r) := by
  cases r with
  | nil => exact ⟨_, List.getElem?_eq_getElem h, fun e => absurd rfl e⟩
  | cons y r =>
    obtain ⟨f, h1, h2, h3, h4⟩ := h
    exact ⟨f, h1, fun _ => ⟨h2, h3, h4⟩⟩
theorem copied4 {w : World} {x : Nat} {o0 o1 o2 o3 a0 a1 a2 a3 : Value} {t : TypeId} (h : w.heap[x]? = some (.cells #[o0, o1, o2, o3] t)) :
    ((((w.setCell ⟨x, 0, none⟩ a0).setCell ⟨x, 1, none⟩ a1).setCell ⟨x, 2, none⟩ a2).setCell ⟨x, 3, none⟩ a3).heap[x]? = some (.cells #[a0, a1, a2, a3] t) ∧
    ∀ k, k ≠ x → ((((w.setCell ⟨x, 0, none⟩ a0).setCell ⟨x, 1, none⟩ a1).setCell ⟨x, 2, none⟩ a2).setCell ⟨x, 3, none⟩ a3).heap[k]? = w.heap[k]? := by
  refine ⟨?_, fun k hk => ?_⟩
  · refine (heap_set_here (heap_set_here (heap_set_here (heap_set_here h)))).trans ?_
    simp
  · exact (Below.heap_setCell _ _ _ k hk).trans ((Below.heap_setCell _ _ _ k hk).trans ((Below.heap_setCell _ _ _ k hk).trans (Below.heap_setCell _ _ _ k hk)))
/-- The state in FieldByIndex's loop. -/
structure St4 (n0 : Nat) (w wr : World) (am : Am) (l : AL Ty) (fs : List Fl) (path : List Nat) (y j y' : Nat) : Prop where
  below : Below w.heap.size w wr
  b4 : wr.heap[w.heap.size]? = some (.cells #[.string ⟨#[]⟩, .string ⟨#[]⟩, .pointer none, .bool false] 116)
  at0 : j = 0 → y' = y ∧ ∃ c0 c1 c2 c3, wr.heap[w.heap.size + 1]? = some (.cells #[c0, c1, c2, c3] 116)
  at1 : 0 < j → ∃ f x, wr.heap[w.heap.size + 1]? = some (.cells #[.string f.name, .string f.tag, .pointer (some ⟨x, 0, none⟩), .bool f.emb] 116) ∧ RT w (Fr n0 w am) am f.t x ∧ f.tag.size ≤ 2000 ∧
    (j < path.length → f.emb = true ∧ embOk f ∧ (envT l f.name).kind = 13 ∧ PathOk l (envT l f.name).fields (path.drop j))
theorem St4.start (w : World) (t : TypeId) (ht : t = 116 := by rfl) : ∀ (n0 : Nat) (am : Am) (l : AL Ty) (fs : List Fl) (path : List Nat) (y : Nat), St4 n0 w ((w.alloc (.cells #[.string ⟨#[]⟩, .string ⟨#[]⟩, .pointer none, .bool false] t)).alloc (.cells #[.string ⟨#[]⟩, .string ⟨#[]⟩, .pointer none, .bool false] t)) am l fs path y 0 y := by
  subst ht
  intro n0 am l fs path y
  have s1 : (w.alloc (.cells #[.string ⟨#[]⟩, .string ⟨#[]⟩, .pointer none, .bool false] 116)).heap.size = w.heap.size + 1 := by simp
  refine ⟨((Below.refl _ _).alloc (Nat.le_refl _) _).alloc (by omega) _, ?_, fun _ => ⟨rfl, .string ⟨#[]⟩, .string ⟨#[]⟩, .pointer none, .bool false, ?_⟩, fun h => absurd h (by decide)⟩
  · rw [Below.heap_alloc _ _ _ (by omega)]
    exact heap_alloc_new w _
  · have := heap_alloc_new (w.alloc (.cells #[.string ⟨#[]⟩, .string ⟨#[]⟩, .pointer none, .bool false] 116)) (.cells #[.string ⟨#[]⟩, .string ⟨#[]⟩, .pointer none, .bool false] 116)
    rw [s1] at this
    exact this
set_option maxHeartbeats 1600000 in
set_option maxRecDepth 100000 in
theorem byIndex_any {n0 : Nat} {am : Am} {l : AL Ty} (fs : List Fl) (y ib cc : Nat) (path : List Nat) (w : World) (hg : GNm n0 w am l) (hs : NdSz l) (hp : PathOk l fs path) (hf : Fds n0 w am l fs y) (hi : ∀ j x : Nat, path[j]? = some x → w.cell? ⟨ib, j, none⟩ = some (.int .i64 (x : Int))) (hlen : path.length ≤ 1000000) :
    Calls Tryz.prog 63 #[.pointer (some ⟨y, 0, none⟩), .slice (some ⟨ib, 0, none⟩) path.length cc] w fun e w' => Below w.heap.size w w' ∧ ∃ (name tag : ByteArray) (t : Nat) (emb : Bool), e = .returned (.agg #[.string name, .string tag, .pointer (some ⟨t, 0, none⟩), .bool emb]) ∧ tag.size ≤ 2000 := by
  have HG := Lib.hid hg
  have HS := Lib.hid hs
  have HP := Lib.hid hp
  have HF := Lib.hid hf
  have HI := Lib.hid hi
  clear hg hs hp hf hi
  go_enter Tryz.func63, Tryz.ntmps63
  go_upto_region 2 with fail
  have hst := St4.start w 116
  generalize (w.alloc (.cells #[.string ⟨#[]⟩, .string ⟨#[]⟩, .pointer none, .bool false] 116)).alloc (.cells #[.string ⟨#[]⟩, .string ⟨#[]⟩, .pointer none, .bool false] 116) = W0 at hst ⊢
  have HST := Lib.hid hst
  clear hst
  go_wp2_with fail
  go_loopw [10, 0] (fun s10 s0 wr => ∃ j y' : Nat, s10 = .int .i64 j ∧ s0 = .pointer (some ⟨y', 0, none⟩) ∧ j ≤ path.length ∧ St4 n0 w wr am l fs path y j y') (fun s10 _ _ => path.length - (intOf s10).toNat)
  case atStart => exact ⟨0, y, rfl, rfl, Nat.zero_le _, HST.out _ _ _ _ _ _⟩
  case round =>
    clear HST
    obtain ⟨j, y', rfl, rfl, hj, hst⟩ := hrel
    by_cases hlt : j < path.length
    · obtain ⟨x, hx⟩ : ∃ x, path[j]? = some x := ⟨_, List.getElem?_eq_getElem hlt⟩
      have hib := HI.out j x hx
      have hibl : ib < w.heap.size := lt_cell hib
      have hib' : wr.cell? ⟨ib, j, none⟩ = some (.int .i64 (x : Int)) := (World.cell?_of_block (hst.below.block ib hibl)).trans hib
      have HS4 := Lib.hid hst
      clear hst hib
      go_upto_if 16 with fail
      go_cut [0] from 17 to 37 (fun s0 wx => ∃ b fs', s0 = .pointer (some ⟨b, 0, none⟩) ∧ wr = wx ∧ Fds n0 w am l fs' b ∧ PathOk l fs' (path.drop j))
      case first =>
        have hbl := HS4.out.below
        have hHF := HF.out
        rcases Nat.eq_zero_or_pos j with rfl | h0
        · obtain ⟨rfl, _⟩ := HS4.out.at0 rfl
          clear hbl
          go_wp2_with fail
          go_meet
          exact ⟨_, fs, rfl, rfl, HF.out, HP.out⟩
        · obtain ⟨f, x', hb5, hrt, _, hq⟩ := HS4.out.at1 h0
          obtain ⟨he, ho, hk, hpo⟩ := hq hlt
          have g2 : wr.cell? ⟨w.heap.size + 1, 2, none⟩ = some (.pointer (some ⟨x', 0, none⟩)) := by simp only [World.cell?, hb5]; rfl
          have hpth := hpo
          rcases emb_block HG.out HS.out he ho hrt with ⟨b, hb, rfl, h14⟩ | ⟨b, hb, k0, k2⟩
          · obtain ⟨c0, hfd⟩ := named_fds HG.out HS.out hb hk
            have hxl : x' < w.heap.size := lt_cell c0
            have c0' : wr.cell? ⟨x', 0, none⟩ = some (.int .u8 18) := (World.cell?_of_block (hbl.block x' hxl)).trans c0
            have HFD := Lib.hid hfd
            have HPT := Lib.hid hpth
            clear hbl c0 hfd hpo hpth hrt hb5 hq hHF
            go_wp2_with fail
            go_meet
            exact ⟨_, _, rfl, rfl, HFD.out, HPT.out⟩
          · obtain ⟨c0, hfd⟩ := named_fds HG.out HS.out hb hk
            have hxl : x' < w.heap.size := lt_cell k0
            have hbl2 : b < w.heap.size := lt_cell c0
            have k0' : wr.cell? ⟨x', 0, none⟩ = some (.int .u8 17) := (World.cell?_of_block (hbl.block x' hxl)).trans k0
            have k2' : wr.cell? ⟨x', 2, none⟩ = some (.pointer (some ⟨b, 0, none⟩)) := (World.cell?_of_block (hbl.block x' hxl)).trans k2
            have c0' : wr.cell? ⟨b, 0, none⟩ = some (.int .u8 18) := (World.cell?_of_block (hbl.block b hbl2)).trans c0
            have HFD := Lib.hid hfd
            have HPT := Lib.hid hpth
            clear hbl c0 k0 k2 hfd hpo hpth hrt hb5 hq hHF
            go_wp2_with fail
            go_meet
            exact ⟨_, _, rfl, rfl, HFD.out, HPT.out⟩
      case rest =>
        obtain ⟨b, fs', rfl, rfl, hfd, hpo⟩ := hcut
        have hdr : path.drop j = x :: path.drop (j + 1) := by
          rw [List.drop_eq_getElem_cons hlt]
          congr 1
          rw [List.getElem?_eq_getElem hlt] at hx
          exact Option.some.inj hx
        rw [hdr] at hpo
        obtain ⟨f, hf, hnext⟩ := path_head hpo
        obtain ⟨A, c, hc5, hRF⟩ := hfd.c5
        obtain ⟨fb, x', rfl, _, hFC, hx'⟩ := RF.at_ _ _ 0 x f hRF hf
        rw [Nat.zero_add] at hFC
        have hxl : x < fs'.length := (List.getElem?_eq_some_iff.1 hf).1
        have hbl := HS4.out.below
        have hbw : b < w.heap.size := lt_cell hc5
        have hfw : fb < w.heap.size := lt_cell hFC.c0
        have hc5' : wr.cell? ⟨b, 5, none⟩ = some (.slice (some ⟨fb, 0, none⟩) fs'.length c) := (World.cell?_of_block (hbl.block b hbw)).trans hc5
        have ⟨f0, f1, f2, f3⟩ := hFC.keep (hbl.block fb hfw)
        have hlf := szf_len fs'
        have hfsz := hfd.sz
        have hfz := fl_sz _ x f hf
        have hemb := hfd.emb f (List.mem_of_getElem? hf)
        have hold : ∃ c0 c1 c2 c3, wr.heap[w.heap.size + 1]? = some (.cells #[c0, c1, c2, c3] 116) := by
          rcases Nat.eq_zero_or_pos j with rfl | h0
          · exact (HS4.out.at0 rfl).2
          · obtain ⟨f', x'', hb5, _⟩ := HS4.out.at1 h0
            exact ⟨_, _, _, _, hb5⟩
        obtain ⟨o0, o1, o2, o3, hold⟩ := hold
        have e0 : wr.cell? ⟨w.heap.size + 1, 0, none⟩ = some o0 := by simp only [World.cell?, hold]; rfl
        have e1 : wr.cell? ⟨w.heap.size + 1, 1, none⟩ = some o1 := by simp only [World.cell?, hold]; rfl
        have e2 : wr.cell? ⟨w.heap.size + 1, 2, none⟩ = some o2 := by simp only [World.cell?, hold]; rfl
        have e3 : wr.cell? ⟨w.heap.size + 1, 3, none⟩ = some o3 := by simp only [World.cell?, hold]; rfl
        have n0' : wr.frozen? ⟨w.heap.size + 1, 0, none⟩ = false := by simp only [World.frozen?, hold]; simp
        have n1' : wr.frozen? ⟨w.heap.size + 1, 1, none⟩ = false := by simp only [World.frozen?, hold]; simp
        have n2' : wr.frozen? ⟨w.heap.size + 1, 2, none⟩ = false := by simp only [World.frozen?, hold]; simp
        have n3' : wr.frozen? ⟨w.heap.size + 1, 3, none⟩ = false := by simp only [World.frozen?, hold]; simp
        have HX' := Lib.hid hx'
        have HN := Lib.hid hnext
        have HO := Lib.hid hold
        have HEM := Lib.hid hemb
        clear hFC hx' hnext hold hemb hbl hc5 hRF hpo hdr hfd
        go_wp2_with fail
        go_roundw
        case rel =>
          obtain ⟨hb5, hx5⟩ := copied4 (a0 := .string f.name) (a1 := .string f.tag) (a2 := .pointer (some ⟨x', 0, none⟩)) (a3 := .bool f.emb) HO.out
          have hbl5 : Below w.heap.size w ((((wr.setCell ⟨w.heap.size + 1, 0, none⟩ (.string f.name)).setCell ⟨w.heap.size + 1, 1, none⟩ (.string f.tag)).setCell ⟨w.heap.size + 1, 2, none⟩ (.pointer (some ⟨x', 0, none⟩))).setCell ⟨w.heap.size + 1, 3, none⟩ (.bool f.emb)) :=
            (((HS4.out.below.setCell (p := ⟨w.heap.size + 1, 0, none⟩) (by show w.heap.size ≤ w.heap.size + 1; omega) _).setCell (p := ⟨w.heap.size + 1, 1, none⟩) (by show w.heap.size ≤ w.heap.size + 1; omega) _).setCell (p := ⟨w.heap.size + 1, 2, none⟩) (by show w.heap.size ≤ w.heap.size + 1; omega) _).setCell (p := ⟨w.heap.size + 1, 3, none⟩) (by show w.heap.size ≤ w.heap.size + 1; omega) _
          refine ⟨j + 1, b, by go_num, rfl, by omega, hbl5, ?_, fun h => by omega, fun _ => ⟨f, x', hb5, HX'.out, by omega, fun hj2 => ?_⟩⟩
          · exact (hx5 w.heap.size (by omega)).trans HS4.out.b4
          · obtain ⟨q1, q2, q3⟩ := HN.out (by intro e; have := congrArg List.length e; simp at this; omega)
            exact ⟨q1, HEM.out, q2, q3⟩
        case measure => simp [intOf]; omega
    · obtain rfl : j = path.length := by omega
      have hp0 : 0 < path.length := by
        rcases Nat.eq_zero_or_pos path.length with h | h
        · have := HP.out
          rw [List.eq_nil_of_length_eq_zero h] at this
          exact this.elim
        · exact h
      obtain ⟨f, x', hb5, _, htz, _⟩ := hst.at1 hp0
      have hb4 := hst.b4
      have g0 : wr.cell? ⟨w.heap.size + 1, 0, none⟩ = some (.string f.name) := by simp only [World.cell?, hb5]; rfl
      have g1 : wr.cell? ⟨w.heap.size + 1, 1, none⟩ = some (.string f.tag) := by simp only [World.cell?, hb5]; rfl
      have g2 : wr.cell? ⟨w.heap.size + 1, 2, none⟩ = some (.pointer (some ⟨x', 0, none⟩)) := by simp only [World.cell?, hb5]; rfl
      have g3 : wr.cell? ⟨w.heap.size + 1, 3, none⟩ = some (.bool f.emb) := by simp only [World.cell?, hb5]; rfl
      have e0 : wr.cell? ⟨w.heap.size, 0, none⟩ = some (.string ⟨#[]⟩) := by simp only [World.cell?, hb4]; rfl
      have e1 : wr.cell? ⟨w.heap.size, 1, none⟩ = some (.string ⟨#[]⟩) := by simp only [World.cell?, hb4]; rfl
      have e2 : wr.cell? ⟨w.heap.size, 2, none⟩ = some (.pointer none) := by simp only [World.cell?, hb4]; rfl
      have e3 : wr.cell? ⟨w.heap.size, 3, none⟩ = some (.bool false) := by simp only [World.cell?, hb4]; rfl
      have n0' : wr.frozen? ⟨w.heap.size, 0, none⟩ = false := by simp only [World.frozen?, hb4]; simp
      have n1' : wr.frozen? ⟨w.heap.size, 1, none⟩ = false := by simp only [World.frozen?, hb4]; simp
      have n2' : wr.frozen? ⟨w.heap.size, 2, none⟩ = false := by simp only [World.frozen?, hb4]; simp
      have n3' : wr.frozen? ⟨w.heap.size, 3, none⟩ = false := by simp only [World.frozen?, hb4]; simp
      have HBL := Lib.hid hst.below
      have HB4 := Lib.hid hb4
      clear hst hb5 hb4
      go_wp2_with fail
      have hc := copied4 (a0 := .string f.name) (a1 := .string f.tag) (a2 := .pointer (some ⟨x', 0, none⟩)) (a3 := .bool f.emb) HB4.out
      refine bodyPost_ret (v := .agg #[.string f.name, .string f.tag, .pointer (some ⟨x', 0, none⟩), .bool f.emb]) (by simp [results, Tryz.results63, go_sem, World.cell?, hc.1]) rfl ⟨?_, f.name, f.tag, x', f.emb, rfl, htz⟩
      exact (((HBL.out.setCell (p := ⟨w.heap.size, 0, none⟩) (Nat.le_refl _) _).setCell (p := ⟨w.heap.size, 1, none⟩) (Nat.le_refl _) _).setCell (p := ⟨w.heap.size, 2, none⟩) (Nat.le_refl _) _).setCell (p := ⟨w.heap.size, 3, none⟩) (Nat.le_refl _) _
end Go.Proofs.YtnmgocbmofbppaaGreatDoor
