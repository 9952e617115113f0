/- make: structs. make at every type. small. The list of named types in memory; the book that is made of it. Plain definitions and laws. -/
import Derived.Test.YtnmgocbmofbppaaGreatDoorA06
import Derived.Test.YtnmgocbmofbppaaGreatDoorA07
import Derived.Test.YtnmgocbmofbppaaGreatDoorA02
import Derived.Test.YtnmgocbmofbppaaGreatDoorA03
import Derived.KernelRfl
import Derived.Outline
import Derived.BigGuardPart
import Derived.Deep.DeepMust
import Derived.Deep.LoopGhost
import Derived.Deep.DeepCutAuto
import Derived.Deep.CutBlock
import Derived.Deep.QuietTactic
import Derived.BigQuiet
import Derived.Lib.Hide
import Derived.WalkSpells
import Derived.Deep.Light
import Derived.Deep.RegionWith
import Derived.WalkLawsBesides
import Derived.StillTailTactics

set_option linter.unusedVariables false
set_option linter.unusedSimpArgs false

namespace Go.Proofs.YtnmgocbmofbppaaGreatDoor
open Go.RowKit

section
variable {w wc w2 : World} {B bk mn mm : Nat} {env : AL Ty} {am am' : Am} {left deep L L0 : Int} {fs : List Fl}
/-- A struct with its fields laid. -/
theorem MakePost.struct {r : Bool} {e : Ending} (n : Int) (s : ByteArray) (he : e = .returned (.tuple #[.pointer (some ⟨wc.heap.size, 0, none⟩), .bool r])) (hm : MStep (fun k => k = bk ∨ k = mm) w wc B bk mn mm env am am L0)
    (hb : bk < w.heap.size) (hmm : mm < w.heap.size)
    (h : MStep (fun k => k = bk ∨ k = mm ∨ k = wc.heap.size) (wc.alloc (tb 18 ⟨#[]⟩ none none 0 none 0 0 0)) w2 B bk mn mm env am am' L) (h1 : L ≤ left) (h2 : -2001 * (102 - deep) ≤ L)
    (hc : ∀ i, i ≠ 5 → w2.cell? ⟨wc.heap.size, i, none⟩ = (wc.alloc (tb 18 ⟨#[]⟩ none none 0 none 0 0 0)).cell? ⟨wc.heap.size, i, none⟩) (hf : ∀ i, w2.frozen? ⟨wc.heap.size, i, none⟩ = (wc.alloc (tb 18 ⟨#[]⟩ none none 0 none 0 0 0)).frozen? ⟨wc.heap.size, i, none⟩)
    (hr : r = true → 0 ≤ L ∧ (∃ A fc, w2.cell? ⟨wc.heap.size, 5, none⟩ = some (.slice A fs.length fc) ∧ RF w2 (Fresh (wc.alloc (tb 18 ⟨#[]⟩ none none 0 none 0 0 0)) w2 am') am' fs A 0) ∧ (fs.map Fl.name).Nodup ∧ (∀ f ∈ fs, embOk f) ∧ Dones (wc.alloc (tb 18 ⟨#[]⟩ none none 0 none 0 0 0)) w2 am am' env) :
    MakePost w B bk mn mm env am left deep (.mk 13 n s [] fs) e w2 := by
  have hs1 := hm.ext.size
  have hs2 := h.ext.size
  have hsz1 : (wc.alloc (tb 18 ⟨#[]⟩ none none 0 none 0 0 0)).heap.size = wc.heap.size + 1 := by simp
  rw [hsz1] at hs2
  have hk : MStep (fun k => k = bk ∨ k = mm) wc w2 B bk mn mm env am am' L := by
    refine ⟨h.pre, h.sub, fun s b e1 e2 => by have := h.new s b e1 e2; simp at this; omega, ⟨h.ext.os, h.ext.tape, h.ext.output, by omega, fun k hk hn => ?_⟩⟩
    exact (h.ext.block k (by simp; omega) (by omega)).trans (Below.heap_alloc wc _ k hk)
  refine ⟨_, r, L, am', he, hm.trans hk, h1, h2, fun hq => ?_⟩
  obtain ⟨h0, ⟨A, fc, h5, hRF⟩, hnd, hem, hd⟩ := hr hq
  have hT := TB.new wc 18 ⟨#[]⟩ none none 0 none 0 0 0
  have h7 := info_new wc 18 ⟨#[]⟩ none none 0 none 0 0 0
  have hlate : ∀ i, Fresh (wc.alloc (tb 18 ⟨#[]⟩ none none 0 none 0 0 0)) w2 am' i → Fresh w w2 am' i := fun i hi => hi.late (by simp; omega)
  have hfx : Fresh w w2 am' wc.heap.size := by
    refine ⟨hs1, by omega, fun s e => ?_⟩
    cases e1 : am s with
    | none =>
      have := (h.new s _ e e1).1
      rw [hsz1] at this
      omega
    | some c =>
      have e3 := h.sub s c e1
      rw [e] at e3
      injection e3 with e3
      have := hm.pre.old s c e1
      omega
  refine ⟨h0, ⟨_, rfl, ?_⟩, Dones.trans hm hk (fun i hi => by omega) (fun s b e1 e2 => by simp [e1] at e2) fun s b e1 e2 => (hd s b e1 e2).mono (fun i hi => ⟨hi.late (by simp), rfl⟩) (fun _ _ e => e) rfl⟩
  unfold RT
  rw [if_neg (by decide)]
  refine ⟨hfx, ⟨(hc 7 (by decide)).trans h7.1, (hf 7).trans h7.2⟩, ⟨#[]⟩, by decide, by decide, none, none, A, fs.length, fc, ⟨?_, ?_, ?_, ?_, ?_, h5, ?_⟩, ⟨by simp, by simp, by simp, by simp, by simp⟩, trivial, fun _ => ⟨rfl, hnd, hem⟩, RF.keep (fun i hi => ⟨hlate i hi, rfl⟩) (fun _ _ e => e) _ _ _ hRF⟩
  · rw [hc 0 (by decide)]; exact hT.c0
  · rw [hc 1 (by decide)]; exact hT.c1
  · rw [hc 2 (by decide)]; exact hT.c2
  · rw [hc 3 (by decide)]; exact hT.c3
  · rw [hc 4 (by decide)]; exact hT.c4
  · rw [hc 6 (by decide)]; exact hT.c6
end

set_option maxHeartbeats 1600000 in
set_option maxRecDepth 100000 in
theorem make_struct {U : Lib.RTab} {B bk mn mm : Nat} {env : AL Ty} {N : Nat} (ih : MakeOk U B bk mn mm env N) (n : Int) (s : ByteArray) (fs : List Fl) : MakeAt U B bk mn mm env (N + 1) (.mk 13 n s [] fs) := by
  intro w am left deep cs hN hl6 hl0 hd0 hd1 hwf hsz h hU hT
  obtain ⟨A, co, D, cf, rfl, hbig, hof, hfs⟩ := hT
  have c2 := h.c2
  have nf := h.nf
  have hlt := h.hlt
  have hmt := h.ltm
  have hBk := h.hB
  have hBm := h.hBm
  have H := Lib.hid h
  have IH := Lib.hid ih
  have HU := Lib.hid hU
  have HFS := Lib.hid hfs
  have HBIG := Lib.hid hbig
  clear h ih hU hof hfs hbig
  go_enter Tryz.func30, Tryz.ntmps30
  go_upto_region 1 with fail
  go_cut [] (fun wx => MStep (fun k => k = bk ∨ k = mm) w wx B bk mn mm env am am (left - 1) ∧ Box5' wx w.heap.size (.int .i64 13) (.int .i64 n) (.string s) (.slice A 0 co) (.slice D fs.length cf) ∧ w.heap.size < wx.heap.size)
  case first =>
    go_wp2
    go_meet
    exact ⟨⟨(H.out.set_ _).alloc _, fun _ _ e => e, fun s b e1 e2 => by simp [e1] at e2, (Ext.setCell (S := fun k => k = bk ∨ k = mm) w (a := ⟨bk, 2, none⟩) (.inl rfl) _).trans (Ext.alloc _ _)⟩, Box5'.new' (by simp [World.setCell]) _ _ _ _ _ _, by simp [World.setCell]⟩
  case rest =>
    obtain ⟨hm, ⟨d0, d1, d2, d3, d4⟩, hs⟩ := hcut
    clear c2 nf
    have c2 := hm.pre.c2
    have HM := Lib.hid hm
    clear hm
    by_cases hdp : 100 < deep
    · go_wp2
      go_ret2
      exact MakePost.bad rfl HM.out (by omega) (by omega)
    · by_cases hl : left - 1 < 0
      · go_wp2
        go_ret2
        exact MakePost.bad rfl HM.out (by omega) (by omega)
      · go_wp2_with fail
        all_goals first
          | (go_ret2; exact MakePost.bad rfl HM.out (by omega) (by omega))
          | skip
        go_loopw [83] (fun i wr => i = .int .i64 0 ∧ wc = wr) (fun _ _ => 0)
        case atStart => exact ⟨rfl, rfl⟩
        case round =>
          obtain ⟨rfl, rfl⟩ := hrel
          have hU2 : ∀ o, Uni U B (wc.alloc o) := fun o => HU.out.keep ((HM.out.ext.trans (Ext.alloc wc o)).below (B := B) (fun i hi => by omega) (by omega))
          have hBb := HM.out.pre.hB
          have hBm := HM.out.pre.hBm
          have hsw := HM.out.ext.size
          have hmn := HM.out.pre.nm.ltm
          have hFS : ∀ o, FlsV (wc.alloc o) (· < B) fs D 0 := fun o => FlsV.keep (fun i hi => ⟨hi, (Below.heap_alloc wc o i (by omega)).trans (HM.out.ext.block i (by omega) (by omega))⟩) _ _ _ HFS.out
          have hO : ∀ o, FOk (wc.alloc o) B bk mn mm wc.heap.size := fun o => ⟨by simp, by omega, by omega, by omega, by omega, by simp; omega, by simp; omega, by simp; omega, hBb, hBm⟩
          have hwf2 : wff fs := by unfold Ty.wf at hwf; exact hwf.2.2.2.2
          have hsz2 : szf fs ≤ 2000 := by unfold Ty.sz at hsz; omega
          have HU2 := Lib.hid hU2
          have HFS2 := Lib.hid hFS
          have HO := Lib.hid hO
          clear hU2 hFS hO
          go_wp2_with (go_at_call 58; refine (fields_any IH.out _ am (left - 1) deep fs D cf (by omega) (by omega) (by omega) hd0 (by omega) (by exact HM.out.pre.alloc _) (by exact HU2.out _) (by exact HO.out _) (by simp [go_sem]) (by simp [go_sem]) (by exact HFS2.out _) HBIG.out.2.2 hwf2 hsz2).mono ?_; rintro e w2 ⟨r, L, am', rfl, hm2, hL, hL1, hc, hf, hr⟩; have HM2 := Lib.hid hm2; have HR := Lib.hid hr; have HC := Lib.hid hc; have HF := Lib.hid hf; clear hm2 hr hc hf)
          go_ret2
          exact MakePost.struct n s rfl HM.out hlt hmt HM2.out (by omega) hL1 HC.out HF.out HR.out

end Go.Proofs.YtnmgocbmofbppaaGreatDoor
namespace Go.Proofs.YtnmgocbmofbppaaGreatDoor
open Go.RowKit

theorem make_at {U : Lib.RTab} {B bk mn mm : Nat} {env : AL Ty} {N : Nat} (hE : EnvOk env) (ih : MakeOk U B bk mn mm env N) (T : Ty) (hw : T.wf) : MakeAt U B bk mn mm env (N + 1) T := by
  obtain ⟨k, n, s, of, fs⟩ := T
  unfold Ty.wf at hw
  obtain ⟨⟨h1, h2⟩, h3, h4, h5, h6⟩ := hw
  by_cases h13 : k = 13
  · subst h13
    rw [if_neg (by decide)] at h3
    obtain rfl := List.eq_nil_of_length_eq_zero h3
    exact make_struct ih n s fs
  · obtain rfl := h4 h13
    by_cases h1 : k = 9 ∨ k = 10 ∨ k = 12
    · rw [if_pos h1] at h3
      obtain ⟨t, rfl⟩ : ∃ t, of = [t] := List.length_eq_one_iff.1 h3
      rcases h1 with rfl | rfl | rfl
      · exact make_slice ih n s t
      · exact make_array ih n s t
      · exact make_pointer ih n s t
    · rw [if_neg h1] at h3
      obtain rfl := List.eq_nil_of_length_eq_zero h3
      have : k = 1 ∨ k = 2 ∨ k = 3 ∨ k = 4 ∨ k = 5 ∨ k = 6 ∨ k = 7 ∨ k = 8 ∨ k = 11 ∨ k = 14 ∨ k = 15 := by omega
      rcases this with rfl | rfl | rfl | rfl | rfl | rfl | rfl | rfl | rfl | rfl | rfl
      · exact make_bool n s
      · exact make_int n s
      · exact make_uint n s
      · exact make_float n s
      · exact make_string n s
      · exact make_any n s
      · exact make_name n s
      · exact make_attr n s
      · exact make_map n s
      · exact make_named hE ih n s
      · exact make_text n s
theorem make_ok {U : Lib.RTab} {B bk mn mm : Nat} {env : AL Ty} (hE : EnvOk env) : ∀ N, MakeOk U B bk mn mm env N
  | 0 => fun w am left deep T cs h => absurd h (Nat.not_lt_zero _)
  | N + 1 => fun w am left deep T cs hN h2 h3 h4 h5 hw hs hp hU hT => make_at hE (make_ok hE N) T hw w am left deep cs hN h2 h3 h4 h5 hw hs hp hU hT
end Go.Proofs.YtnmgocbmofbppaaGreatDoor
namespace Go.Proofs.YtnmgocbmofbppaaGreatDoor
open Go.RowKit

/-- Only block cb has turned, and of it only cell co. -/
structure Ex1 (cb co : Nat) (w w' : World) : Prop extends Ext (· = cb) w w' where
  cell : ∀ i, i ≠ co → w'.cell? ⟨cb, i, none⟩ = w.cell? ⟨cb, i, none⟩
section
variable {w w' w2 : World} {cb co : Nat}
theorem Ex1.trans (h : Ex1 cb co w w') (k : Ex1 cb co w' w2) : Ex1 cb co w w2 := ⟨h.toExt.trans k.toExt, fun i hi => (k.cell i hi).trans (h.cell i hi)⟩
theorem Ex1.alloc (h : cb < w.heap.size) (o : Obj) : Ex1 cb co w (w.alloc o) := ⟨Ext.alloc w o, fun i _ => World.cell?_of_block (Below.heap_alloc w o cb h)⟩
theorem Ex1.setCell (w : World) (v : Value) : Ex1 cb co w (w.setCell ⟨cb, co, none⟩ v) :=
  ⟨Ext.setCell (S := (· = cb)) w (a := ⟨cb, co, none⟩) rfl v, fun i hi => World.cell?_setCell_other w ⟨cb, co, none⟩ ⟨cb, i, none⟩ v (fun e => by injection e with e1 e2; exact hi e2.symm)⟩
theorem Ex1.of_drew {d : Nat} (h : Ex1 cb co { w with drawn := d } w') : Ex1 cb co w w' := ⟨h.toExt.of_drew, h.cell⟩
end
/-- What small, ways and soundIn leave. -/
def SPost2 (w : World) (B bk mn : Nat) (env : AL Ty) (cb co : Nat) (left : Int) (e : Ending) (w' : World) : Prop :=
  ∃ r L, e = .returned (.bool r) ∧ SPre w' B bk mn env cb co L ∧ L < left ∧ -1 ≤ L ∧ (r = true → 0 ≤ L) ∧ Ex1 cb co w w'

/-- The contract of small at a type, while at most N cells are left. -/
def SmOk2 (B bk mn : Nat) (env : AL Ty) (N : Nat) (T : Ty) : Prop :=
  ∀ (w : World) (left : Int) (cs : List Value), 0 ≤ left → left ≤ N → left ≤ 1000000 → SPre w B bk mn env bk 2 left → TyV w (· < B) T cs →
    Calls Tryz.prog 32 #[.pointer (some ⟨bk, 0, none⟩), .agg cs.toArray] w (SPost2 w B bk mn env bk 2 left)

set_option maxHeartbeats 1600000 in
set_option maxRecDepth 100000 in
theorem small_any2 {B bk mn : Nat} {env : AL Ty} (hE : wfE env) : ∀ (N : Nat) (T : Ty), T.wf0 → SmOk2 B bk mn env N T := by
  intro N
  induction N using Nat.strongRecOn with
  | _ N ih =>
    intro T hw w left cs h0 hN hM h hT
    cases T with
    | mk k n s of fs =>
    obtain ⟨A, co, D, cf, rfl, hbig, hof, hfs⟩ := hT
    have hcl := h.cl
    have hnf := h.nf
    have hlt := h.hlt
    have H := Lib.hid h
    have IH := Lib.hid ih
    clear h ih
    go_enter Tryz.func32, Tryz.ntmps32
    go_upto_region 1 with fail
    go_cut [10] (fun _ wx => SPre wx B bk mn env bk 2 (left - 1) ∧ Box5' wx w.heap.size (.int .i64 k) (.int .i64 n) (.string s) (.slice A of.length co) (.slice D fs.length cf) ∧ Ex1 bk 2 w wx ∧ w.heap.size < wx.heap.size)
    case first =>
      go_wp2
      go_meet
      exact ⟨(H.out.set_ _).alloc _, Box5'.new' (by simp [World.setCell]) _ _ _ _ _ _, (Ex1.setCell w _).trans (Ex1.alloc (by simpa [World.setCell] using hlt) _), by simp [World.setCell]⟩
    case rest =>
      obtain ⟨hp, ⟨d0, d1, d2, d3, d4⟩, hx, hs⟩ := hcut
      clear hcl hnf
      have hcl := hp.cl
      have hc0 := hp.c0
      have hnf := hp.nf
      have HP := Lib.hid hp
      have HX := Lib.hid hx
      clear hp hx
      by_cases hl : left - 1 < 0
      · go_wp2_with fail
        go_ret
        exact ⟨false, _, rfl, HP.out, by omega, by omega, (fun h => nomatch h), HX.out⟩
      · have hd0 : decide (left - 1 < 0) = false := decide_eq_false hl
        have arm : ∀ e w2, SPost2 wc B bk mn env bk 2 (left - 1) e w2 → SPost2 w B bk mn env bk 2 left e w2 := by
          rintro e w2 ⟨r, L, rfl, hp2, hL, hL1, hr, hx2⟩
          exact ⟨r, L, rfl, hp2, by omega, hL1, hr, HX.out.trans hx2⟩
        have ARM := Lib.hid arm
        clear arm
        by_cases h14 : k = 14
        · subst h14
          obtain ⟨lv, hlv, A', ca, B', cb, hval, _, hty⟩ := HP.out.nm.look s
          have hlk : (Instr.lookup 72 (.map (some mn)) (.string s) false).run Tryz.prog wc.drew =
              .ok (.agg #[.int .i64 (envT env s).kind, .int .i64 (envT env s).n, .string (envT env s).s, .slice A' (envT env s).of.length ca, .slice B' (envT env s).fields.length cb]) wc.drew := by
            rw [run_lookup_s (w := wc.drew) Tryz.underlying72 Tryz.underlying9 (hlv.keep rfl) s z26 (zero26 _) false]
            simp [hval]
          have HT := Lib.hid hty
          clear hlv hval hty
          go_upto_region 6 with fail
          go_still_tail 8, (by kernel_rfl)
          go_wp2_with fail
          refine (IH.out (N - 1) (by omega) (envT env s) (envT_wf0 hE s) _ (left - 1) _ (by omega) (by omega) (by omega) (by exact HP.out.of_heap rfl) (by exact HT.out.of_heap rfl)).mono ?_
          rintro e w2 ⟨r, L, rfl, hp2, hL, hL1, hr, hx2⟩
          have Y := Lib.hid (ARM.out _ _ ⟨r, L, rfl, hp2, hL, hL1, hr, hx2.of_drew⟩)
          clear hp2 hL hL1 hr hx2
          go_wp2
          go_ret
          exact Y.out
        · by_cases h10 : k = 10
          · subst h10
            obtain ⟨t, rfl, hw'⟩ := wf_of_ptr hw (by simp)
            obtain ⟨b, off, A', ca, B', cb, rfl, ha, hty, hcell⟩ := TysV.at_ (j := 0) hof rfl
            have hbne : b ≠ bk := by have := H.out.hB; omega
            simp only [Nat.zero_mul, Nat.add_zero] at hcell
            obtain ⟨e0, e1, e2, e3, e4⟩ := hcell
            have hbl : b < w.heap.size := by have := H.out.hB; omega
            have IT := Lib.hid (IH.out (N - 1) (by omega) t (Or.inl hw'))
            go_wp2_with fail
            go_loopw [36] (fun i wr => ∃ (j : Int) (L : Int), i = .int .i64 j ∧ 0 ≤ j ∧ j ≤ 9223372036854775806 ∧ SPre wr B bk mn env bk 2 L ∧ 0 ≤ L ∧ L ≤ left - 1 ∧ (L + j ≤ left - 1) ∧ Ex1 bk 2 w wr ∧ w.heap.size < wr.heap.size ∧ Box5' wr w.heap.size (.int .i64 10) (.int .i64 n) (.string s) (.slice (some ⟨b, off, none⟩) [t].length co) (.slice D fs.length cf)) (fun i _ => (left - intOf i).toNat)
            case atStart => exact ⟨0, left - 1, rfl, by omega, by omega, HP.out, by omega, by omega, by omega, HX.out, hs, ⟨d0, d1, d2, d3, d4⟩⟩
            case round =>
              clear d0 d1 d2 d3 d4 hcl hc0 hnf hd0 hs HP HX
              obtain ⟨j, L, rfl, hj0, hj1, hp, hL0, hL1, hL2, hx, hs, ⟨d0, d1, d2, d3, d4⟩⟩ := hrel
              by_cases hjn : j < n
              · have hblk : ∀ b, b < B → wr.heap[b]? = w.heap[b]? := fun b hb => hx.block b (by have := H.out.hB; omega) (by have := H.out.hB; omega)
                rw [← World.cell?_of_block (w' := wr) (hblk _ ha)] at e0 e1 e2 e3 e4
                have ht1 := TyV.keep (w' := wr) (fun b hb => ⟨hb, hblk b hb⟩) _ _ hty
                have HT := Lib.hid ht1
                have HP := Lib.hid hp
                have HX := Lib.hid hx
                clear ht1 hty hp hx hblk
                go_wp2_with (go_at_call 32; refine (IT.out _ L _ hL0 (by omega) (by omega) (by exact HP.out) (by exact HT.out)).mono ?_; rintro e w2 ⟨r, L2, rfl, hp2, hL, hL1, hr, hx2⟩; have hs2 := Nat.lt_of_lt_of_le hs hx2.size; have HB2 := Lib.hid ((show Box5' wr w.heap.size _ _ _ _ _ from ⟨d0, d1, d2, d3, d4⟩).keep (hx2.block _ hs (by omega))); have HX2 := Lib.hid (HX.out.trans hx2); have HP2 := Lib.hid hp2; have HR := Lib.hid hr; clear hp2 hx2 hr; cases r)
                · go_ret
                  exact ⟨false, L2, rfl, HP2.out, by omega, by omega, (fun h => nomatch h), HX2.out⟩
                · have hL20 := HR.out (by simp)
                  go_roundw
                  case rel => exact ⟨j + 1, L2, rfl, by omega, by omega, HP2.out, hL20, by omega, by omega, HX2.out, hs2, HB2.out⟩
                  case measure => simp [intOf]; omega
              · have HP := Lib.hid hp
                have HX := Lib.hid hx
                clear hp hx
                go_wp2
                go_ret
                exact ⟨true, L, rfl, HP.out, by omega, by omega, (fun _ => hL0), HX.out⟩
          · by_cases h13 : k = 13
            · subst h13
              have hbig : s.size ≤ 140737488351232 ∧ of.length ≤ 140737488351232 ∧ fs.length ≤ 140737488351232 := hbig
              go_wp2_with fail
              go_loopw [51] (fun i wr => ∃ (j : Nat) (L : Int), i = .int .i64 j ∧ j ≤ fs.length ∧ SPre wr B bk mn env bk 2 L ∧ 0 ≤ L ∧ L ≤ left - 1 ∧ Ex1 bk 2 w wr ∧ w.heap.size < wr.heap.size) (fun i _ => fs.length - (intOf i).toNat)
              case atStart => exact ⟨0, left - 1, rfl, Nat.zero_le _, HP.out, by omega, by omega, HX.out, hs⟩
              case round =>
                clear d0 d1 d2 d3 d4 hcl hc0 hnf hd0 hs HP HX
                obtain ⟨j, L, rfl, hj, hp, hL0, hL1, hx, hs⟩ := hrel
                by_cases hlt : j < fs.length
                · obtain ⟨f, hf⟩ : ∃ f, fs[j]? = some f := ⟨_, List.getElem?_eq_getElem hlt⟩
                  obtain ⟨b, off, A', ca, B', cb, rfl, ha, _, hty, hcell⟩ := FlsV.at_ hfs hf
                  have hblk : ∀ b, b < B → wr.heap[b]? = w.heap[b]? := fun b hb => hx.block b (by have := H.out.hB; omega) (by have := H.out.hB; omega)
                  have ⟨e0, e1, e2, e3, e4, e5, e6, e7⟩ := hcell
                  rw [← World.cell?_of_block (w' := wr) (hblk _ ha)] at e0 e1 e2 e3 e4 e5 e6 e7
                  have ht1 : ∀ o, TyV (wr.alloc o) (· < B) f.t _ := fun o => TyV.keep (fun b hb => ⟨hb, (Below.heap_alloc wr o b (by have := H.out.hB; omega)).trans (hblk b hb)⟩) _ _ hty
                  have hwf : f.t.wf := (mem_sz (List.mem_of_getElem? hf)).2 (wff_of hw)
                  have HF := Lib.hid (IH.out (N - 1) (by omega) f.t (Or.inl hwf))
                  have HT := Lib.hid ht1
                  have HP := Lib.hid hp
                  have HX := Lib.hid hx
                  clear hty hcell hblk hp hx hf ht1 hwf
                  go_wp2_with (go_at_call 32; refine (HF.out _ L _ hL0 (by omega) (by omega) (by exact HP.out.alloc _) (by exact HT.out _)).mono ?_; rintro e w2 ⟨r, L2, rfl, hp2, hL, hL1, hr, hx2⟩; have hs2 := Nat.lt_of_lt_of_le hs (Nat.le_trans (by simp) hx2.size); have HX2 := Lib.hid ((HX.out.trans (Ex1.alloc (by exact HP.out.hlt) _)).trans hx2); have HP2 := Lib.hid hp2; have HR := Lib.hid hr; clear hp2 hx2 hr; cases r)
                  · go_ret
                    exact ⟨false, L2, rfl, HP2.out, by omega, by omega, (fun h => nomatch h), HX2.out⟩
                  · have hL20 := HR.out (by simp)
                    go_roundw
                    case rel => exact ⟨j + 1, L2, by go_num, by omega, HP2.out, hL20, by omega, HX2.out, hs2⟩
                    case measure => simp [intOf]; omega
                · have HP := Lib.hid hp
                  have HX := Lib.hid hx
                  clear hp hx
                  go_wp2
                  go_ret
                  exact ⟨true, L, rfl, HP.out, by omega, by omega, (fun _ => hL0), HX.out⟩
            · go_wp2_with fail
              go_ret
              exact ⟨true, _, rfl, HP.out, by omega, by omega, (fun _ => by omega), HX.out⟩
end Go.Proofs.YtnmgocbmofbppaaGreatDoor
namespace Go.Proofs.YtnmgocbmofbppaaGreatDoor
open Go.RowKit

/-- From element i of a slice at A on there lie these named types. -/
def NdV (w : World) (ok : Nat → Prop) : AL Ty → Option Addr → Nat → Prop
  | [], _, _ => True
  | p :: ps, A, i => (∃ b off cs, A = some ⟨b, off, none⟩ ∧ ok b ∧ p.1.size ≤ big ∧ TyV w ok p.2 cs ∧ ∀ j v, (Value.string p.1 :: cs)[j]? = some v → w.cell? ⟨b, off + i * 6 + j, none⟩ = some v) ∧ NdV w ok ps A (i + 1)
theorem NdV.keep {w w' : World} {ok ok' : Nat → Prop} (hk : ∀ b, ok b → ok' b ∧ w'.heap[b]? = w.heap[b]?) : ∀ (l : AL Ty) (A : Option Addr) (i : Nat), NdV w ok l A i → NdV w' ok' l A i
  | [], _, _, _ => trivial
  | p :: ps, A, i, ⟨⟨b, off, cs, h1, h2, h3, h4, h5⟩, h6⟩ =>
    ⟨⟨b, off, cs, h1, (hk b h2).1, h3, TyV.keep hk _ _ h4, fun j v e => (World.cell?_of_block (hk b h2).2).trans (h5 j v e)⟩, NdV.keep hk ps A (i + 1) h6⟩
theorem NdV.get {w : World} {ok : Nat → Prop} : ∀ (l : AL Ty) (A : Option Addr) (i j : Nat) (p : ByteArray × Ty), NdV w ok l A i → l[j]? = some p →
    ∃ b off cs, A = some ⟨b, off, none⟩ ∧ ok b ∧ p.1.size ≤ big ∧ TyV w ok p.2 cs ∧ ∀ k v, (Value.string p.1 :: cs)[k]? = some v → w.cell? ⟨b, off + (i + j) * 6 + k, none⟩ = some v
  | [], _, _, _, _, _, h => by simp at h
  | q :: ps, A, i, 0, p, h, e => by
    simp at e
    subst e
    simpa using h.1
  | q :: ps, A, i, j + 1, p, h, e => by
    have := NdV.get ps A (i + 1) j p h.2 (by simpa using e)
    rwa [show i + 1 + j = i + (j + 1) by omega] at this
/-- The cells of a named type. -/
def NdCells (w : World) (b o : Nat) (name : ByteArray) (k n : Int) (s : ByteArray) (A : Option Addr) (la ca : Nat) (D : Option Addr) (lb cb : Nat) : Prop :=
  w.cell? ⟨b, o, none⟩ = some (.string name) ∧ w.cell? ⟨b, o + 1, none⟩ = some (.int .i64 k) ∧ w.cell? ⟨b, o + 2, none⟩ = some (.int .i64 n) ∧ w.cell? ⟨b, o + 3, none⟩ = some (.string s) ∧ w.cell? ⟨b, o + 4, none⟩ = some (.slice A la ca) ∧ w.cell? ⟨b, o + 5, none⟩ = some (.slice D lb cb)
theorem NdCells.keep {w w' : World} {b o : Nat} {name : ByteArray} {k n : Int} {s : ByteArray} {A : Option Addr} {la ca : Nat} {D : Option Addr} {lb cb : Nat} (h : NdCells w b o name k n s A la ca D lb cb) (hb : w'.heap[b]? = w.heap[b]?) : NdCells w' b o name k n s A la ca D lb cb := by
  obtain ⟨h0, h1, h2, h3, h4, h5⟩ := h
  exact ⟨(World.cell?_of_block hb).trans h0, (World.cell?_of_block hb).trans h1, (World.cell?_of_block hb).trans h2, (World.cell?_of_block hb).trans h3, (World.cell?_of_block hb).trans h4, (World.cell?_of_block hb).trans h5⟩
theorem NdV.at_ {w : World} {ok : Nat → Prop} {l : AL Ty} {A : Option Addr} {j : Nat} {p : ByteArray × Ty} (h : NdV w ok l A 0) (e : l[j]? = some p) :
    ∃ b off A' ca B' cb, A = some ⟨b, off, none⟩ ∧ ok b ∧ p.1.size ≤ big ∧ TyV w ok p.2 [.int .i64 p.2.kind, .int .i64 p.2.n, .string p.2.s, .slice A' p.2.of.length ca, .slice B' p.2.fields.length cb] ∧
      NdCells w b (off + j * 6) p.1 p.2.kind p.2.n p.2.s A' p.2.of.length ca B' p.2.fields.length cb := by
  obtain ⟨b, off, cs, hA, ha, hs, ht, hc⟩ := NdV.get l A 0 j p h e
  have ht' := ht
  obtain ⟨A', ca, B', cb, rfl, _⟩ := ht.open_
  rw [Nat.zero_add] at hc
  exact ⟨b, off, A', ca, B', cb, hA, ha, hs, ht', ⟨hc 0 _ rfl, hc 1 _ rfl, hc 2 _ rfl, hc 3 _ rfl, hc 4 _ rfl, hc 5 _ rfl⟩⟩

theorem AL.get_snoc {α : Type} : ∀ (l : AL α) (k : ByteArray) (v : α) (s : ByteArray), AL.get (l ++ [(k, v)]) s = (l.get s).or (if s = k then some v else none)
  | [], k, v, s => by
    simp only [List.nil_append, AL.get]
    by_cases h : s = k
    · rw [if_pos (AL.beq_iff.2 h), if_pos h]; rfl
    · rw [if_neg (fun e => h (AL.beq_iff.1 e)), if_neg h]; rfl
  | (k', v') :: r, k, v, s => by
    simp only [List.cons_append, AL.get]
    split
    · rfl
    · exact AL.get_snoc r k v s
theorem AL.get_none {α : Type} : ∀ (l : AL α) (s : ByteArray), l.get s = none ↔ s ∉ l.map (·.1)
  | [], s => by simp [AL.get]
  | (k, v) :: r, s => by
    simp only [AL.get, List.map_cons, List.mem_cons, not_or]
    by_cases h : s = k
    · rw [if_pos (AL.beq_iff.2 h)]; simp [h]
    · rw [if_neg (fun e => h (AL.beq_iff.1 e)), AL.get_none r s]; simp [h]
theorem AL.get_some {α : Type} : ∀ (l : AL α), (l.map (·.1)).Nodup → ∀ p ∈ l, l.get p.1 = some p.2
  | [], _, p, h => by simp at h
  | (k, v) :: r, hd, p, h => by
    simp only [List.map_cons, List.nodup_cons] at hd
    simp only [AL.get]
    rcases List.mem_cons.1 h with rfl | h
    · rw [if_pos (AL.beq_iff.2 rfl)]
    · have hne : p.1 ≠ k := fun e => hd.1 (by rw [← e]; exact List.mem_map.2 ⟨p, h, rfl⟩)
      rw [if_neg (fun e => hne (AL.beq_iff.1 e))]
      exact AL.get_some r hd.2 p h

/-- The kinds that a named type has. -/
def NdKind (k : Int) : Prop := k ≠ 12 ∧ k ≠ 6 ∧ k ≠ 7 ∧ k ≠ 8 ∧ k ≠ 11 ∧ k ≠ 15 ∧ k ≠ 14
/-- The names are well made. -/
structure NdOk (l : AL Ty) : Prop where
  nd : (l.map (·.1)).Nodup
  nm : ∀ p ∈ l, p.1.size ≠ 0 ∧ p.1.size ≤ 100
  kd : ∀ p ∈ l, NdKind p.2.kind
theorem NdOk.nil : NdOk [] := ⟨by simp, by simp, by simp⟩
theorem NdOk.snoc {l : AL Ty} {p : ByteArray × Ty} (h : NdOk l) (h1 : l.get p.1 = none) (h2 : p.1.size ≠ 0 ∧ p.1.size ≤ 100) (h3 : NdKind p.2.kind) : NdOk (l ++ [p]) := by
  refine ⟨?_, fun q hq => ?_, fun q hq => ?_⟩
  · rw [List.map_append, List.nodup_append]
    refine ⟨h.nd, by simp, fun a ha b hb e => ?_⟩
    simp at hb
    subst hb e
    exact (AL.get_none l _).1 h1 ha
  · rcases List.mem_append.1 hq with hq | hq
    · exact h.nm q hq
    · simp at hq; subst hq; exact h2
  · rcases List.mem_append.1 hq with hq | hq
    · exact h.kd q hq
    · simp at hq; subst hq; exact h3
/-- What laws guard: the sizes. -/
def NdSz (l : AL Ty) : Prop := ∀ p ∈ l, p.2.wf ∧ p.2.sz ≤ 2000
theorem NdOk.env {l : AL Ty} (h : NdOk l) (hs : NdSz l) : EnvOk l := fun s T e => by
  have hm := get_mem l s T e
  exact ⟨(hs _ hm).1, (hs _ hm).2, (h.kd _ hm).2.2.2.2.2.2⟩
theorem EnvOk.wfE {env : AL Ty} (h : EnvOk env) : wfE env := fun s T e => (h s T e).1

section
variable {w w' w2 W : World} {B bk mn mm : Nat} {env : AL Ty} {am am' : Am} {left L : Int}
/-- A name is added. -/
theorem MPre.def_ {lv : AL Value} {p : ByteArray × Ty} {cs : List Value} (h : MPre W B bk mn mm env am left) (hlv : ∀ s, (env.get s = none → lv.get s = none) ∧ ∀ T, env.get s = some T → ∃ cs : List Value, lv.get s = some (.agg cs.toArray) ∧ TyV W (· < B) T cs)
    (hn : env.get p.1 = none) (hT : TyV W (· < B) p.2 cs) (h2 : SMap w2 mn (lv.put p.1 (.agg cs.toArray))) (hg : W.grownBy w2 (some mn)) (hBn : B ≤ mn) : MPre w2 B bk mn mm (env ++ [p]) am left := by
  have hb : ∀ k, k < W.heap.size → k ≠ mn → w2.heap[k]? = W.heap[k]? := fun k hk hn => hg.block k hk fun e => by injection e with e; exact hn e
  have h1 := h.hlt
  have h3 := h.ltm
  obtain ⟨lm, hm1, hm2⟩ := h.ma
  refine ⟨(World.cell?_of_block (hb bk h1 h.hmn.symm)).trans h.c0, (World.cell?_of_block (hb bk h1 h.hmn.symm)).trans h.c1, (World.cell?_of_block (hb bk h1 h.hmn.symm)).trans h.c2, (World.frozen?_of_block (hb bk h1 h.hmn.symm)).trans h.nf,
    ⟨_, h2, fun s => ?_⟩, ⟨lm, hm1.keep (hb mm h3 h.hmmn), hm2⟩, h.hB, h.hBm, h.hmn, h.hmm, h.hmmn, Nat.lt_of_lt_of_le h1 hg.size, fun t b e => Nat.lt_of_lt_of_le (h.old t b e) hg.size⟩
  have hkeep : ∀ b, b < B → b < B ∧ w2.heap[b]? = W.heap[b]? := fun b hbB => ⟨hbB, hb b (by have := h.hB; omega) (by omega)⟩
  obtain ⟨k, T⟩ := p
  rw [AL.get_put, AL.get_snoc]
  by_cases hs : s = k
  · subst hs
    rw [if_pos rfl, if_pos rfl]
    have hn : env.get s = none := hn
    rw [hn]
    refine ⟨fun e => by simp at e, fun T' e => ?_⟩
    simp at e
    subst e
    exact ⟨cs, rfl, TyV.keep hkeep _ _ hT⟩
  · rw [if_neg hs, if_neg hs, Option.or_none]
    refine ⟨(hlv s).1, fun T' e => ?_⟩
    obtain ⟨cs', h4, h5⟩ := (hlv s).2 T' e
    exact ⟨cs', h4, TyV.keep hkeep _ _ h5⟩
theorem MPre.spre (h : MPre w B bk mn mm env am left) : SPre w B bk mn env bk 2 left := ⟨h.c0, h.c2, h.nf, h.nm, h.hB, fun _ => by decide, h.hmn, h.hlt⟩
/-- Behind small: only the count has changed. -/
theorem MPre.small (h : MPre w B bk mn mm env am left) (hs : SPre w' B bk mn env bk 2 L) (hx : Ex1 bk 2 w w') : MPre w' B bk mn mm env am L := by
  have h2 := h.ltm
  obtain ⟨lv, hm1, hm2⟩ := h.ma
  exact ⟨hs.c0, (hx.cell 1 (by decide)).trans h.c1, hs.cl, hs.nf, hs.nm, ⟨lv, hm1.keep (hx.block mm h2 h.hmm), hm2⟩, h.hB, h.hBm, h.hmn, h.hmm, h.hmmn, hs.hlt, fun s b e => Nat.lt_of_lt_of_le (h.old s b e) hx.size⟩
end
end Go.Proofs.YtnmgocbmofbppaaGreatDoor
