/- W3 W4 W2 W5 -/
import Derived.Test.YtnmgocbmofbppaaGreatDoorA01
import Derived.KernelRfl
import Derived.Outline
import Derived.BigGuardPart
import Derived.Deep.DeepMust
import Derived.Deep.LoopGhost
import Derived.Deep.DeepCutAuto
import Derived.Deep.CutBlock
import Derived.Deep.QuietTactic
import Derived.BigQuiet
import Derived.Lib.Hide
import Derived.WalkSpells
import Derived.Deep.Light
import Derived.Deep.RegionWith
import Derived.WalkLawsBesides
import Derived.StillTailTactics

set_option linter.unusedVariables false
set_option linter.unusedSimpArgs false

namespace Go.Proofs.YtnmgocbmofbppaaGreatDoor
open Go.RowKit


/-- Only blocks of S have turned; there may be new ones. -/
structure Ext (S : Nat → Prop) (w w' : World) : Prop where
  os : w'.os = w.os
  tape : w'.tape = w.tape
  output : w'.output = w.output
  size : w.heap.size ≤ w'.heap.size
  block : ∀ k, k < w.heap.size → ¬ S k → w'.heap[k]? = w.heap[k]?
section
variable {S S' : Nat → Prop} {w w' w'' : World}
theorem Ext.refl (S : Nat → Prop) (w : World) : Ext S w w := ⟨rfl, rfl, rfl, Nat.le_refl _, fun _ _ _ => rfl⟩
theorem Ext.trans (h : Ext S w w') (k : Ext S w' w'') : Ext S w w'' :=
  ⟨k.os.trans h.os, k.tape.trans h.tape, k.output.trans h.output, Nat.le_trans h.size k.size, fun i hi hn => (k.block i (Nat.lt_of_lt_of_le hi h.size) hn).trans (h.block i hi hn)⟩
theorem Ext.mono (h : Ext S w w') (hs : ∀ k, k < w.heap.size → S k → S' k) : Ext S' w w' :=
  ⟨h.os, h.tape, h.output, h.size, fun k hk hn => h.block k hk fun e => hn (hs k hk e)⟩
theorem Ext.alloc (w : World) (o : Obj) : Ext S w (w.alloc o) := ⟨rfl, rfl, rfl, by simp, fun k hk _ => Below.heap_alloc w o k hk⟩
theorem Ext.setCell (w : World) {a : Addr} (ha : S a.block) (v : Value) : Ext S w (w.setCell a v) :=
  ⟨rfl, rfl, rfl, by simp [World.setCell], fun k _ hn => Below.heap_setCell w a v k (fun e => hn (e ▸ ha))⟩
theorem Ext.of_drew {d : Nat} (h : Ext S { w with drawn := d } w') : Ext S w w' := ⟨h.os, h.tape, h.output, h.size, h.block⟩
theorem Ext.drewN (h : Ext S w w') (n : Nat) : Ext S w (w'.drewN n) := ⟨h.os, h.tape, h.output, h.size, h.block⟩
theorem Ext.below (h : Ext S w w') {B : Nat} (hB : ∀ k, S k → B ≤ k) (hsz : B ≤ w.heap.size) : Below B w w' :=
  ⟨h.os, h.tape, h.output, h.size, fun k hk => h.block k (by omega) fun e => by have := hB k e; omega⟩
theorem Ext.of_grownBy {r : Nat} (h : w.grownBy w' (some r)) (hr : S r) : Ext S w w' :=
  ⟨h.os, h.tape, h.output, h.size, fun k hk hn => h.block k hk fun e => by injection e with e; subst e; exact hn hr⟩
theorem Ext.of_below (h : Below w.heap.size w w') : Ext S w w' := ⟨h.os, h.tape, h.output, h.size, fun k hk _ => h.block k hk⟩
end

/-- The state in which small, ways and soundIn work: the book, its named types, a counter in the cell (cb, co). -/
structure SPre (w : World) (B bk mn : Nat) (env : AL Ty) (cb co : Nat) (left : Int) : Prop where
  c0 : w.cell? ⟨bk, 0, none⟩ = some (.map (some mn))
  cl : w.cell? ⟨cb, co, none⟩ = some (.int .i64 left)
  nf : w.frozen? ⟨cb, co, none⟩ = false
  nm : NamedAt w (· < B) mn env
  hB : B ≤ cb
  hne : bk = cb → 0 ≠ co
  hmn : mn ≠ cb
  hlt : bk < w.heap.size
theorem SPre.ltc {w : World} {B bk mn : Nat} {env : AL Ty} {cb co : Nat} {left : Int} (h : SPre w B bk mn env cb co left) : cb < w.heap.size := by
  rcases Nat.lt_or_ge cb w.heap.size with h1 | h1
  · exact h1
  · have := h.cl
    unfold World.cell? at this
    rw [Array.getElem?_eq_none h1] at this
    cases this
theorem NamedAt.ltm {w : World} {ok : Nat → Prop} {mn : Nat} {env : AL Ty} (h : NamedAt w ok mn env) : mn < w.heap.size := by
  obtain ⟨lv, h1, _⟩ := h; exact h1.lt
theorem SPre.alloc {w : World} {B bk mn : Nat} {env : AL Ty} {cb co : Nat} {left : Int} (h : SPre w B bk mn env cb co left) (o : Obj) : SPre (w.alloc o) B bk mn env cb co left := by
  have hb := Below.heap_alloc w o
  have h1 := h.hlt
  have h2 := h.ltc
  have h3 := h.nm.ltm
  refine ⟨(World.cell?_of_block (hb bk h1)).trans h.c0, (World.cell?_of_block (hb cb h2)).trans h.cl, (World.frozen?_of_block (hb cb h2)).trans h.nf, h.nm.keep (hb mn h3) fun b hbB => ⟨hbB, hb b ?_⟩, h.hB, h.hne, h.hmn, by simp; omega⟩
  have := h.hB; omega
theorem SPre.of_heap {w w' : World} {B bk mn : Nat} {env : AL Ty} {cb co : Nat} {left : Int} (h : SPre w B bk mn env cb co left) (e : w'.heap = w.heap) : SPre w' B bk mn env cb co left :=
  ⟨(World.cell?_of_block (by rw [e])).trans h.c0, (World.cell?_of_block (by rw [e])).trans h.cl, (World.frozen?_of_block (by rw [e])).trans h.nf, h.nm.keep (by rw [e]) fun b hb => ⟨hb, by rw [e]⟩, h.hB, h.hne, h.hmn, by rw [e]; exact h.hlt⟩
theorem SPre.set_ {w : World} {B bk mn : Nat} {env : AL Ty} {cb co : Nat} {left : Int} (h : SPre w B bk mn env cb co left) (x : Int) : SPre (w.setCell ⟨cb, co, none⟩ (.int .i64 x)) B bk mn env cb co x := by
  have hb : ∀ k, k ≠ cb → (w.setCell ⟨cb, co, none⟩ (.int .i64 x)).heap[k]? = w.heap[k]? := fun k hk => Below.heap_setCell w _ _ k hk
  refine ⟨?_, ?_, ?_, h.nm.keep (hb mn h.hmn) fun b hbB => ⟨hbB, hb b (by have := h.hB; omega)⟩, h.hB, h.hne, h.hmn, by simpa [World.setCell] using h.hlt⟩
  · rw [World.cell?_setCell_other (h := fun e => by injection e with e1 e2; exact h.hne e1.symm e2.symm)]
    exact h.c0
  · exact World.cell?_setCell_same _ _ _ h.cl
  · exact (World.frozen?_setCell ..).trans h.nf
/-- A box of five cells, behind a call or a store elsewhere. -/
def Box5' (w : World) (B : Nat) (a b c d e : Value) : Prop :=
  w.cell? ⟨B, 0, none⟩ = some a ∧ w.cell? ⟨B, 1, none⟩ = some b ∧ w.cell? ⟨B, 2, none⟩ = some c ∧ w.cell? ⟨B, 3, none⟩ = some d ∧ w.cell? ⟨B, 4, none⟩ = some e
theorem Box5'.keep {w w' : World} {B : Nat} {a b c d e : Value} (h : Box5' w B a b c d e) (hb : w'.heap[B]? = w.heap[B]?) : Box5' w' B a b c d e := by
  obtain ⟨h0, h1, h2, h3, h4⟩ := h
  exact ⟨(World.cell?_of_block hb).trans h0, (World.cell?_of_block hb).trans h1, (World.cell?_of_block hb).trans h2, (World.cell?_of_block hb).trans h3, (World.cell?_of_block hb).trans h4⟩
theorem Box5'.new (w : World) (a b c d e : Value) (t : TypeId) : Box5' (w.alloc (.cells #[a, b, c, d, e] t)) w.heap.size a b c d e := by
  refine ⟨?_, ?_, ?_, ?_, ?_⟩ <;> simp [go_sem]

theorem Box5'.new' {w : World} {B : Nat} (h : w.heap.size = B) (a b c d e : Value) (t : TypeId) : Box5' (w.alloc (.cells #[a, b, c, d, e] t)) B a b c d e := by
  subst h; exact .new ..
/-- What small, ways and soundIn leave. -/
def SPost (w : World) (B bk mn : Nat) (env : AL Ty) (cb co : Nat) (left : Int) (e : Ending) (w' : World) : Prop :=
  ∃ r L, e = .returned (.bool r) ∧ SPre w' B bk mn env cb co L ∧ L < left ∧ -1 ≤ L ∧ (r = true → 0 ≤ L) ∧ Ext (· = cb) w w'

/-- The contract of small at a type, while at most N cells are left. -/
def SmOk (B bk mn : Nat) (env : AL Ty) (N : Nat) (T : Ty) : Prop :=
  ∀ (w : World) (left : Int) (cs : List Value), 0 ≤ left → left ≤ N → left ≤ 1000000 → SPre w B bk mn env bk 2 left → TyV w (· < B) T cs →
    Calls Tryz.prog 32 #[.pointer (some ⟨bk, 0, none⟩), .agg cs.toArray] w (SPost w B bk mn env bk 2 left)

set_option maxHeartbeats 1600000 in
set_option maxRecDepth 100000 in
theorem small_any {B bk mn : Nat} {env : AL Ty} (hE : wfE env) : ∀ (N : Nat) (T : Ty), T.wf0 → SmOk B bk mn env N T := by
  intro N
  induction N using Nat.strongRecOn with
  | _ N ih =>
    intro T hw w left cs h0 hN hM h hT
    cases T with
    | mk k n s of fs =>
    obtain ⟨A, co, D, cf, rfl, hbig, hof, hfs⟩ := hT
    have hcl := h.cl
    have hnf := h.nf
    have hlt := h.hlt
    have H := Lib.hid h
    have IH := Lib.hid ih
    clear h ih
    go_enter Tryz.func32, Tryz.ntmps32
    go_upto_region 1 with fail
    go_cut [10] (fun _ wx => SPre wx B bk mn env bk 2 (left - 1) ∧ Box5' wx w.heap.size (.int .i64 k) (.int .i64 n) (.string s) (.slice A of.length co) (.slice D fs.length cf) ∧ Ext (· = bk) w wx ∧ w.heap.size < wx.heap.size)
    case first =>
      go_wp2
      go_meet
      exact ⟨(H.out.set_ _).alloc _, Box5'.new' (by simp [World.setCell]) _ _ _ _ _ _, (Ext.setCell (S := (· = bk)) w rfl _).trans (Ext.alloc _ _), by simp [World.setCell]⟩
    case rest =>
      obtain ⟨hp, ⟨d0, d1, d2, d3, d4⟩, hx, hs⟩ := hcut
      clear hcl hnf
      have hcl := hp.cl
      have hc0 := hp.c0
      have hnf := hp.nf
      have HP := Lib.hid hp
      have HX := Lib.hid hx
      clear hp hx
      by_cases hl : left - 1 < 0
      · go_wp2_with fail
        go_ret
        exact ⟨false, _, rfl, HP.out, by omega, by omega, (fun h => nomatch h), HX.out⟩
      · have hd0 : decide (left - 1 < 0) = false := decide_eq_false hl
        have arm : ∀ e w2, SPost wc B bk mn env bk 2 (left - 1) e w2 → SPost w B bk mn env bk 2 left e w2 := by
          rintro e w2 ⟨r, L, rfl, hp2, hL, hL1, hr, hx2⟩
          exact ⟨r, L, rfl, hp2, by omega, hL1, hr, HX.out.trans hx2⟩
        have ARM := Lib.hid arm
        clear arm
        by_cases h14 : k = 14
        · subst h14
          obtain ⟨lv, hlv, A', ca, B', cb, hval, _, hty⟩ := HP.out.nm.look s
          have hlk : (Instr.lookup 72 (.map (some mn)) (.string s) false).run Tryz.prog wc.drew =
              .ok (.agg #[.int .i64 (envT env s).kind, .int .i64 (envT env s).n, .string (envT env s).s, .slice A' (envT env s).of.length ca, .slice B' (envT env s).fields.length cb]) wc.drew := by
            rw [run_lookup_s (w := wc.drew) Tryz.underlying72 Tryz.underlying9 (hlv.keep rfl) s z26 (zero26 _) false]
            simp [hval]
          have HT := Lib.hid hty
          clear hlv hval hty
          go_upto_region 6 with fail
          go_still_tail 8, (by kernel_rfl)
          go_wp2_with fail
          refine (IH.out (N - 1) (by omega) (envT env s) (envT_wf0 hE s) _ (left - 1) _ (by omega) (by omega) (by omega) (by exact HP.out.of_heap rfl) (by exact HT.out.of_heap rfl)).mono ?_
          rintro e w2 ⟨r, L, rfl, hp2, hL, hL1, hr, hx2⟩
          have Y := Lib.hid (ARM.out _ _ ⟨r, L, rfl, hp2, hL, hL1, hr, hx2.of_drew⟩)
          clear hp2 hL hL1 hr hx2
          go_wp2
          go_ret
          exact Y.out
        · by_cases h10 : k = 10
          · subst h10
            obtain ⟨t, rfl, hw'⟩ := wf_of_ptr hw (by simp)
            obtain ⟨b, off, A', ca, B', cb, rfl, ha, hty, hcell⟩ := TysV.at_ (j := 0) hof rfl
            have hbne : b ≠ bk := by have := H.out.hB; omega
            simp only [Nat.zero_mul, Nat.add_zero] at hcell
            obtain ⟨e0, e1, e2, e3, e4⟩ := hcell
            have hbl : b < w.heap.size := by have := H.out.hB; omega
            have IT := Lib.hid (IH.out (N - 1) (by omega) t (Or.inl hw'))
            go_wp2_with fail
            go_loopw [36] (fun i wr => ∃ (j : Int) (L : Int), i = .int .i64 j ∧ 0 ≤ j ∧ j ≤ 9223372036854775806 ∧ SPre wr B bk mn env bk 2 L ∧ 0 ≤ L ∧ L ≤ left - 1 ∧ (L + j ≤ left - 1) ∧ Ext (· = bk) w wr ∧ w.heap.size < wr.heap.size ∧ Box5' wr w.heap.size (.int .i64 10) (.int .i64 n) (.string s) (.slice (some ⟨b, off, none⟩) [t].length co) (.slice D fs.length cf)) (fun i _ => (left - intOf i).toNat)
            case atStart => exact ⟨0, left - 1, rfl, by omega, by omega, HP.out, by omega, by omega, by omega, HX.out, hs, ⟨d0, d1, d2, d3, d4⟩⟩
            case round =>
              clear d0 d1 d2 d3 d4 hcl hc0 hnf hd0 hs HP HX
              obtain ⟨j, L, rfl, hj0, hj1, hp, hL0, hL1, hL2, hx, hs, ⟨d0, d1, d2, d3, d4⟩⟩ := hrel
              by_cases hjn : j < n
              · have hblk : ∀ b, b < B → wr.heap[b]? = w.heap[b]? := fun b hb => hx.block b (by have := H.out.hB; omega) (by have := H.out.hB; omega)
                rw [← World.cell?_of_block (w' := wr) (hblk _ ha)] at e0 e1 e2 e3 e4
                have ht1 := TyV.keep (w' := wr) (fun b hb => ⟨hb, hblk b hb⟩) _ _ hty
                have HT := Lib.hid ht1
                have HP := Lib.hid hp
                have HX := Lib.hid hx
                clear ht1 hty hp hx hblk
                go_wp2_with (go_at_call 32; refine (IT.out _ L _ hL0 (by omega) (by omega) (by exact HP.out) (by exact HT.out)).mono ?_; rintro e w2 ⟨r, L2, rfl, hp2, hL, hL1, hr, hx2⟩; have hs2 := Nat.lt_of_lt_of_le hs hx2.size; have HB2 := Lib.hid ((show Box5' wr w.heap.size _ _ _ _ _ from ⟨d0, d1, d2, d3, d4⟩).keep (hx2.block _ hs (by omega))); have HX2 := Lib.hid (HX.out.trans hx2); have HP2 := Lib.hid hp2; have HR := Lib.hid hr; clear hp2 hx2 hr; cases r)
                · go_ret
                  exact ⟨false, L2, rfl, HP2.out, by omega, by omega, (fun h => nomatch h), HX2.out⟩
                · have hL20 := HR.out (by simp)
                  go_roundw
                  case rel => exact ⟨j + 1, L2, rfl, by omega, by omega, HP2.out, hL20, by omega, by omega, HX2.out, hs2, HB2.out⟩
                  case measure => simp [intOf]; omega
              · have HP := Lib.hid hp
                have HX := Lib.hid hx
                clear hp hx
                go_wp2
                go_ret
                exact ⟨true, L, rfl, HP.out, by omega, by omega, (fun _ => hL0), HX.out⟩
          · by_cases h13 : k = 13
            · subst h13
              have hbig : s.size ≤ 140737488351232 ∧ of.length ≤ 140737488351232 ∧ fs.length ≤ 140737488351232 := hbig
              go_wp2_with fail
              go_loopw [51] (fun i wr => ∃ (j : Nat) (L : Int), i = .int .i64 j ∧ j ≤ fs.length ∧ SPre wr B bk mn env bk 2 L ∧ 0 ≤ L ∧ L ≤ left - 1 ∧ Ext (· = bk) w wr ∧ w.heap.size < wr.heap.size) (fun i _ => fs.length - (intOf i).toNat)
              case atStart => exact ⟨0, left - 1, rfl, Nat.zero_le _, HP.out, by omega, by omega, HX.out, hs⟩
              case round =>
                clear d0 d1 d2 d3 d4 hcl hc0 hnf hd0 hs HP HX
                obtain ⟨j, L, rfl, hj, hp, hL0, hL1, hx, hs⟩ := hrel
                by_cases hlt : j < fs.length
                · obtain ⟨f, hf⟩ : ∃ f, fs[j]? = some f := ⟨_, List.getElem?_eq_getElem hlt⟩
                  obtain ⟨b, off, A', ca, B', cb, rfl, ha, _, hty, hcell⟩ := FlsV.at_ hfs hf
                  have hblk : ∀ b, b < B → wr.heap[b]? = w.heap[b]? := fun b hb => hx.block b (by have := H.out.hB; omega) (by have := H.out.hB; omega)
                  have ⟨e0, e1, e2, e3, e4, e5, e6, e7⟩ := hcell
                  rw [← World.cell?_of_block (w' := wr) (hblk _ ha)] at e0 e1 e2 e3 e4 e5 e6 e7
                  have ht1 : ∀ o, TyV (wr.alloc o) (· < B) f.t _ := fun o => TyV.keep (fun b hb => ⟨hb, (Below.heap_alloc wr o b (by have := H.out.hB; omega)).trans (hblk b hb)⟩) _ _ hty
                  have hwf : f.t.wf := (mem_sz (List.mem_of_getElem? hf)).2 (wff_of hw)
                  have HF := Lib.hid (IH.out (N - 1) (by omega) f.t (Or.inl hwf))
                  have HT := Lib.hid ht1
                  have HP := Lib.hid hp
                  have HX := Lib.hid hx
                  clear hty hcell hblk hp hx hf ht1 hwf
                  go_wp2_with (go_at_call 32; refine (HF.out _ L _ hL0 (by omega) (by omega) (by exact HP.out.alloc _) (by exact HT.out _)).mono ?_; rintro e w2 ⟨r, L2, rfl, hp2, hL, hL1, hr, hx2⟩; have hs2 := Nat.lt_of_lt_of_le hs (Nat.le_trans (by simp) hx2.size); have HX2 := Lib.hid ((HX.out.trans (Ext.alloc _ _)).trans hx2); have HP2 := Lib.hid hp2; have HR := Lib.hid hr; clear hp2 hx2 hr; cases r)
                  · go_ret
                    exact ⟨false, L2, rfl, HP2.out, by omega, by omega, (fun h => nomatch h), HX2.out⟩
                  · have hL20 := HR.out (by simp)
                    go_roundw
                    case rel => exact ⟨j + 1, L2, by go_num, by omega, HP2.out, hL20, by omega, HX2.out, hs2⟩
                    case measure => simp [intOf]; omega
                · have HP := Lib.hid hp
                  have HX := Lib.hid hx
                  clear hp hx
                  go_wp2
                  go_ret
                  exact ⟨true, L, rfl, HP.out, by omega, by omega, (fun _ => hL0), HX.out⟩
            · go_wp2_with fail
              go_ret
              exact ⟨true, _, rfl, HP.out, by omega, by omega, (fun _ => by omega), HX.out⟩
end Go.Proofs.YtnmgocbmofbppaaGreatDoor
namespace Go.Proofs.YtnmgocbmofbppaaGreatDoor
open Go.RowKit



/-- The fields of a type, through embedded structs, come to an end: so many of them. -/
inductive WaysC (env : AL Ty) : Ty → Nat → Prop
  | named {n : Int} {s : ByteArray} {of : List Ty} {fs : List Fl} {c : Nat} : WaysC env (envT env s) c → WaysC env (.mk 14 n s of fs) (c + 1)
  | ptr {n : Int} {s : ByteArray} {t : Ty} {fs : List Fl} {c : Nat} : WaysC env t c → WaysC env (.mk 12 n s [t] fs) (c + 1)
  | struct {n : Int} {s : ByteArray} {of : List Ty} {fs : List Fl} (cs : List Nat) : cs.length = fs.length → (∀ (j : Nat) (f : Fl) (c : Nat), fs[j]? = some f → cs[j]? = some c → f.emb = true → WaysC env f.t c) → WaysC env (.mk 13 n s of fs) (1 + cs.length + cs.sum)
  | other {T : Ty} : T.kind ≠ 12 → T.kind ≠ 13 → T.kind ≠ 14 → WaysC env T 1
def WaysOk (env : AL Ty) (T : Ty) : Prop := ∃ c, c ≤ 1000000 ∧ WaysC env T c

theorem wy_low {L L2 : Int} (h1 : 0 ≤ L - 1 → -281474976710656 ≤ L2) (h2 : L - 1 ≤ 0 → L2 = L - 1 - 1) (hL : -140737488351232 ≤ L) : -281474976710656 ≤ L2 := by
  rcases Int.lt_or_le (L - 1) 0 with h | h
  · have := h2 (by omega); omega
  · exact h1 h
/-- The first j fields' counts. -/
def WySum (env : AL Ty) (fs : List Fl) (j : Nat) (left L : Int) : Prop :=
  ∃ cs : List Nat, cs.length = j ∧ (∀ (i : Nat) (f : Fl) (c : Nat), fs[i]? = some f → cs[i]? = some c → f.emb = true → WaysC env f.t c) ∧ L + 1 + cs.length + cs.sum ≤ left
theorem WySum.step {env : AL Ty} {fs : List Fl} {j : Nat} {f : Fl} {left L L2 : Int} (hf : fs[j]? = some f) (h : WySum env fs j left L) (c : Nat) (h1 : f.emb = true → WaysC env f.t c) (hL : L2 + c ≤ L - 1) : WySum env fs (j + 1) left L2 := by
  obtain ⟨cs, h2, h3, h4⟩ := h
  refine ⟨cs ++ [c], by simp [h2], fun i g d hi hd he => ?_, by simp; omega⟩
  rcases Nat.lt_or_ge i cs.length with h5 | h5
  · rw [List.getElem?_append_left h5] at hd
    exact h3 i g d hi hd he
  · rw [List.getElem?_append_right h5] at hd
    have h6 : i - cs.length = 0 := by
      have := (List.getElem?_eq_some_iff.1 hd).1
      simp at this
      omega
    rw [h6] at hd
    simp at hd
    subst hd
    obtain rfl : i = j := by omega
    rw [hf] at hi
    obtain rfl := Option.some.inj hi
    exact h1 he
theorem WySum.done {env : AL Ty} {n : Int} {s : ByteArray} {of : List Ty} {fs : List Fl} {left L : Int} (h : WySum env fs fs.length left L) : ∃ c : Nat, WaysC env (.mk 13 n s of fs) c ∧ L + c ≤ left := by
  obtain ⟨cs, h2, h3, h4⟩ := h
  exact ⟨_, .struct cs h2 h3, by simp at h4 ⊢; omega⟩
theorem wy_named {env : AL Ty} {n : Int} {s : ByteArray} {of : List Ty} {fs : List Fl} {left L : Int} (h : ∃ c : Nat, WaysC env (envT env s) c ∧ L + c ≤ left - 1) : ∃ c : Nat, WaysC env (.mk 14 n s of fs) c ∧ L + c ≤ left := by
  obtain ⟨c, h1, h2⟩ := h
  exact ⟨c + 1, .named h1, by omega⟩
theorem wy_ptr {env : AL Ty} {n : Int} {s : ByteArray} {t : Ty} {fs : List Fl} {left L : Int} (h : ∃ c : Nat, WaysC env t c ∧ L + c ≤ left - 1) : ∃ c : Nat, WaysC env (.mk 12 n s [t] fs) c ∧ L + c ≤ left := by
  obtain ⟨c, h1, h2⟩ := h
  exact ⟨c + 1, .ptr h1, by omega⟩
/-- What ways leaves. -/
def WyPost0 (w : World) (B bk mn : Nat) (env : AL Ty) (cb : Nat) (left : Int) (T : Ty) (e : Ending) (w' : World) : Prop :=
  ∃ r L, e = .returned (.bool r) ∧ SPre w' B bk mn env cb 0 L ∧ L < left ∧ (0 ≤ left → -281474976710656 ≤ L) ∧ (left ≤ 0 → L = left - 1) ∧ (r = true → 0 ≤ L ∧ ∃ c : Nat, WaysC env T c ∧ L + c ≤ left) ∧ Ext (· = cb) w w'

def WyOk0 (B bk mn : Nat) (env : AL Ty) (cb : Nat) (N : Nat) (T : Ty) : Prop :=
  ∀ (w : World) (left : Int) (cs : List Value), -281474976710656 ≤ left → left ≤ N → left ≤ 1000000 → SPre w B bk mn env cb 0 left → TyV w (· < B) T cs →
    Calls Tryz.prog 35 #[.pointer (some ⟨bk, 0, none⟩), .agg cs.toArray, .pointer (some ⟨cb, 0, none⟩)] w (WyPost0 w B bk mn env cb left T)

set_option maxHeartbeats 1600000 in
set_option maxRecDepth 100000 in
theorem ways_core {B bk mn : Nat} {env : AL Ty} {cb : Nat} (hE : wfE env) : ∀ (N : Nat) (T : Ty), T.wf0 → WyOk0 B bk mn env cb N T := by
  intro N
  induction N using Nat.strongRecOn with
  | _ N ih =>
    intro T hw w left cs h0 hN hM h hT
    cases T with
    | mk k n s of fs =>
    obtain ⟨A, co, D, cf, rfl, hbig, hof, hfs⟩ := hT
    have hcl := h.cl
    have hnf := h.nf
    have hltb := h.hlt
    have hlt := h.ltc
    have hne : bk ≠ cb := fun e => h.hne e rfl
    have H := Lib.hid h
    have IH := Lib.hid ih
    clear h ih
    go_enter Tryz.func35, Tryz.ntmps35
    go_upto_region 1 with fail
    go_cut [11] (fun _ wx => SPre wx B bk mn env cb 0 (left - 1) ∧ Box5' wx w.heap.size (.int .i64 k) (.int .i64 n) (.string s) (.slice A of.length co) (.slice D fs.length cf) ∧ Ext (· = cb) w wx ∧ w.heap.size < wx.heap.size)
    case first =>
      go_wp2
      go_meet
      exact ⟨(H.out.set_ _).alloc _, Box5'.new' (by simp [World.setCell]) _ _ _ _ _ _, (Ext.setCell (S := (· = cb)) w rfl _).trans (Ext.alloc _ _), by simp [World.setCell]⟩
    case rest =>
      obtain ⟨hp, ⟨d0, d1, d2, d3, d4⟩, hx, hs⟩ := hcut
      clear hcl hnf
      have hcl := hp.cl
      have hc0 := hp.c0
      have hnf := hp.nf
      have HP := Lib.hid hp
      have HX := Lib.hid hx
      clear hp hx
      by_cases hl : left - 1 < 0
      · go_wp2_with fail
        go_ret
        exact ⟨false, _, rfl, HP.out, by omega, by omega, fun _ => rfl, (fun h => nomatch h), HX.out⟩
      · have hd0 : decide (left - 1 < 0) = false := decide_eq_false hl
        by_cases h14 : k = 14
        · subst h14
          obtain ⟨lv, hlv, A', ca, B', cb', hval, _, hty⟩ := HP.out.nm.look s
          have hlk : (Instr.lookup 72 (.map (some mn)) (.string s) false).run Tryz.prog wc.drew =
              .ok (.agg #[.int .i64 (envT env s).kind, .int .i64 (envT env s).n, .string (envT env s).s, .slice A' (envT env s).of.length ca, .slice B' (envT env s).fields.length cb']) wc.drew := by
            rw [run_lookup_s (w := wc.drew) Tryz.underlying72 Tryz.underlying9 (hlv.keep rfl) s z26 (zero26 _) false]
            simp [hval]
          have HT := Lib.hid hty
          clear hlv hval hty
          go_upto_region 6 with fail
          go_still_tail 9, (by kernel_rfl)
          go_wp2_with fail
          refine (IH.out (N - 1) (by omega) (envT env s) (envT_wf0 hE s) _ (left - 1) _ (by omega) (by omega) (by omega) (by exact HP.out.of_heap rfl) (by exact HT.out.of_heap rfl)).mono ?_
          rintro e w2 ⟨r, L, rfl, hp2, hL, hL1, hL2, hr, hx2⟩
          have Y : Hid (WyPost0 w B bk mn env cb left (.mk 14 n s of fs) (.returned (.bool r)) w2) := ⟨r, L, rfl, hp2, by omega, fun _ => hL1 (by omega), by omega, fun h => ⟨(hr h).1, wy_named (hr h).2⟩, HX.out.trans hx2.of_drew⟩
          clear hp2 hL hL1 hL2 hr hx2
          go_wp2
          go_ret
          exact Y.out
        · by_cases h12 : k = 12
          · subst h12
            obtain ⟨t, rfl, hw'⟩ := wf_of_ptr hw (by simp)
            obtain ⟨b, off, A', ca, B', cb', rfl, ha, hty, hcell⟩ := TysV.at_ (j := 0) hof rfl
            simp only [Nat.zero_mul, Nat.add_zero] at hcell
            have hblk : ∀ b, b < B → wc.heap[b]? = w.heap[b]? := fun b hb => HX.out.block b (by have := H.out.hB; omega) (by have := H.out.hB; omega)
            obtain ⟨e0, e1, e2, e3, e4⟩ := hcell
            rw [← World.cell?_of_block (w' := wc) (hblk _ ha)] at e0 e1 e2 e3 e4
            have HT := Lib.hid (TyV.keep (w' := wc) (fun b hb => ⟨hb, hblk b hb⟩) _ _ hty)
            clear hty hblk
            go_wp2_with (go_at_call 35; refine (IH.out (N - 1) (by omega) t (Or.inl hw') _ (left - 1) _ (by omega) (by omega) (by omega) (by exact HP.out) (by exact HT.out)).mono ?_; rintro e w2 ⟨r, L, rfl, hp2, hL, hL1, hL2, hr, hx2⟩; have Y : Hid (WyPost0 w B bk mn env cb left (.mk 12 n s [t] fs) (.returned (.bool r)) w2) := ⟨r, L, rfl, hp2, by omega, fun _ => hL1 (by omega), by omega, fun h => ⟨(hr h).1, wy_ptr (hr h).2⟩, HX.out.trans hx2⟩; clear hp2 hL hL1 hL2 hr hx2)
            go_ret
            exact Y.out
          · by_cases h13 : k = 13
            · subst h13
              have hbig : s.size ≤ 140737488351232 ∧ of.length ≤ 140737488351232 ∧ fs.length ≤ 140737488351232 := hbig
              go_wp2_with fail
              go_loopw [46] (fun i wr => ∃ (j : Nat) (L : Int), i = .int .i64 j ∧ j ≤ fs.length ∧ SPre wr B bk mn env cb 0 L ∧ -(j : Int) ≤ L ∧ L ≤ left - 1 ∧ WySum env fs j left L ∧ Ext (· = cb) w wr ∧ w.heap.size < wr.heap.size) (fun i _ => fs.length - (intOf i).toNat)
              case atStart => exact ⟨0, left - 1, rfl, Nat.zero_le _, HP.out, by omega, by omega, ⟨[], rfl, by simp, by simp⟩, HX.out, hs⟩
              case round =>
                clear d0 d1 d2 d3 d4 hcl hc0 hnf hd0 hs HP HX
                obtain ⟨j, L, rfl, hj, hp, hL0, hL1, hW, hx, hs⟩ := hrel
                have hcl := hp.cl
                have hnf := hp.nf
                have hltr := hp.ltc
                have HW := Lib.hid hW
                clear hW
                by_cases hlt' : j < fs.length
                · obtain ⟨f, hf⟩ : ∃ f, fs[j]? = some f := ⟨_, List.getElem?_eq_getElem hlt'⟩
                  obtain ⟨b, off, A', ca, B', cb', rfl, ha, _, hty, hcell⟩ := FlsV.at_ hfs hf
                  have hblk : ∀ b, b < B → wr.heap[b]? = w.heap[b]? := fun b hb => hx.block b (by have := H.out.hB; omega) (by have := H.out.hB; omega)
                  have ⟨e0, e1, e2, e3, e4, e5, e6, e7⟩ := hcell
                  rw [← World.cell?_of_block (w' := wr) (hblk _ ha)] at e0 e1 e2 e3 e4 e5 e6 e7
                  have ht1 : ∀ v o, TyV ((wr.setCell ⟨cb, 0, none⟩ v).alloc o) (· < B) f.t _ := fun v o => TyV.keep (fun b hb => ⟨hb, (Below.heap_alloc _ o b (by have := H.out.hB; simp [World.setCell]; omega)).trans ((Below.heap_setCell wr _ v b (by have := H.out.hB; simp; omega)).trans (hblk b hb))⟩) _ _ hty
                  have hwf : f.t.wf := (mem_sz (List.mem_of_getElem? hf)).2 (wff_of hw)
                  have HF := Lib.hid (IH.out (N - 1) (by omega) f.t (Or.inl hwf))
                  have HT := Lib.hid ht1
                  have HP := Lib.hid hp
                  have HX := Lib.hid hx
                  have HFE := Lib.hid hf
                  clear hty hcell hblk hp hx hf ht1 hwf
                  cases hemb : f.emb with
                  | true =>
                    rw [hemb] at e2
                    have HEM := Lib.hid hemb
                    clear hemb
                    go_wp2_with (go_at_call 35; refine (HF.out _ (L - 1) _ (by omega) (by omega) (by omega) (by exact (HP.out.set_ _).alloc _) (by exact HT.out _ _)).mono ?_; rintro e w2 ⟨r, L2, rfl, hp2, hL, hL1, hL2, hr, hx2⟩; have hs2 : w.heap.size < w2.heap.size := Nat.lt_of_lt_of_le hs (Nat.le_trans (by simp [World.setCell]) hx2.size); have HX2 := Lib.hid ((HX.out.trans ((Ext.setCell (S := (· = cb)) wr rfl _).trans (Ext.alloc _ _))).trans hx2); have HP2 := Lib.hid hp2; have HR := Lib.hid hr; have HL1 := Lib.hid hL1; have HL2 := Lib.hid hL2; clear hp2 hx2 hr hL1 hL2; cases r)
                    · go_ret
                      exact ⟨false, L2, rfl, HP2.out, by omega, fun _ => wy_low HL1.out HL2.out (by omega), by omega, (fun h => nomatch h), HX2.out⟩
                    · have hR := HR.out (by simp)
                      have hL20 := hR.1
                      obtain ⟨wyc, hwy1, hwy2⟩ := hR.2
                      have HWF := Lib.hid hwy1
                      have HW2 := Lib.hid (HW.out.step HFE.out wyc (fun _ => hwy1) hwy2)
                      clear hR hwy1 hwy2
                      go_roundw
                      case rel => exact ⟨j + 1, L2, by go_num, by omega, HP2.out, by omega, by omega, HW2.out, HX2.out, hs2⟩
                      case measure => simp [intOf]; omega
                  | false =>
                    rw [hemb] at e2
                    have HEM := Lib.hid hemb
                    clear hemb
                    go_wp2_with fail
                    go_roundw
                    case rel => exact ⟨j + 1, L - 1, by go_num, by omega, (HP.out.set_ _).alloc _, by omega, by omega, HW.out.step HFE.out 0 (fun h => absurd (HEM.out.symm.trans h) (by decide)) (by omega), HX.out.trans ((Ext.setCell (S := (· = cb)) wr rfl _).trans (Ext.alloc _ _)), by simp [World.setCell]; omega⟩
                    case measure => simp [intOf]; omega
                · have HP := Lib.hid hp
                  have HX := Lib.hid hx
                  have hje : j = fs.length := by omega
                  rw [hje] at HW
                  clear hp hx hje
                  go_wp2_with fail
                  go_ret
                  exact ⟨_, L, rfl, HP.out, by omega, by omega, by omega, (fun h => ⟨of_decide_eq_true h, HW.out.done⟩), HX.out⟩
            · go_wp2_with fail
              go_ret
              exact ⟨_, _, rfl, HP.out, by omega, by omega, fun _ => rfl, (fun _ => ⟨by omega, 1, .other h12 h13 h14, by omega⟩), HX.out⟩
/-- What ways leaves. -/
def WyPost (w : World) (B bk mn : Nat) (env : AL Ty) (cb : Nat) (left : Int) (T : Ty) (e : Ending) (w' : World) : Prop :=
  ∃ r L, e = .returned (.bool r) ∧ SPre w' B bk mn env cb 0 L ∧ L < left ∧ (0 ≤ left → -281474976710656 ≤ L) ∧ (left ≤ 0 → L = left - 1) ∧ (r = true → 0 ≤ L ∧ WaysOk env T) ∧ Ext (· = cb) w w'
def WyOk (B bk mn : Nat) (env : AL Ty) (cb : Nat) (N : Nat) (T : Ty) : Prop :=
  ∀ (w : World) (left : Int) (cs : List Value), -281474976710656 ≤ left → left ≤ N → left ≤ 1000000 → SPre w B bk mn env cb 0 left → TyV w (· < B) T cs →
    Calls Tryz.prog 35 #[.pointer (some ⟨bk, 0, none⟩), .agg cs.toArray, .pointer (some ⟨cb, 0, none⟩)] w (WyPost w B bk mn env cb left T)
theorem ways_any {B bk mn : Nat} {env : AL Ty} {cb : Nat} (hE : wfE env) (N : Nat) (T : Ty) (hw : T.wf0) : WyOk B bk mn env cb N T := fun w left cs h1 h2 h3 h4 h5 =>
  (ways_core hE N T hw w left cs h1 h2 h3 h4 h5).mono fun e w' ⟨r, L, k1, k2, k3, k4, k5, k6, k7⟩ => ⟨r, L, k1, k2, k3, k4, k5, fun h => ⟨(k6 h).1, by
    obtain ⟨c, q1, q2⟩ := (k6 h).2
    exact ⟨c, by have := (k6 h).1; omega, q1⟩⟩, k7⟩
end Go.Proofs.YtnmgocbmofbppaaGreatDoor
namespace Go.Proofs.YtnmgocbmofbppaaGreatDoor
open Go.RowKit

set_option maxHeartbeats 1600000 in
set_option maxRecDepth 100000 in
theorem ends_named (env : AL Ty) (s : ByteArray) (n : Int) (va vb : Value) (w : World) (bk mn mm dn : Nat) (left : Int) (l : AL Value) (h : LPre w bk mn mm dn env left l)
    (rec : l.get s = none → ∀ (w' : World) (cs : List Value), LPre w' bk mn mm dn env left (l.put s (.bool true)) → TyV w' (· < dn) (envT env s) cs →
      Calls Tryz.prog 31 #[.pointer (some ⟨bk, 0, none⟩), .agg cs.toArray, .map (some dn)] w' (LPost w' dn (l.put s (.bool true)))) :
    Calls Tryz.prog 31 #[.pointer (some ⟨bk, 0, none⟩), .agg #[.int .i64 14, .int .i64 n, .string s, va, vb], .map (some dn)] w (LPost w dn l) := by
  have h1 := h.step (grownBy_alloc w (.cells #[.int .i64 14, .int .i64 n, .string s, va, vb] 26) _) (h.dm.keep (Below.heap_alloc w _ dn h.dm.lt)) h.bl
  have HR := Lib.hid rec
  clear rec
  cases hs : l.get s with
  | some v =>
    obtain ⟨b, rfl⟩ := h.bl s v hs
    have H1 := Lib.hid h1
    have hv : (l.get s).getD (.bool false) = .bool b := by rw [hs]; rfl
    have hi : (l.get s).isSome = true := by rw [hs]; rfl
    clear h1
    go_enter Tryz.func31, Tryz.ntmps31
    go_wp2_with (at_lookup; refine wpList_lookup_s _ rfl _ _ 103 true rfl 9 4 Tryz.underlying103 Tryz.underlying9 l dn rfl H1.out.dm s rfl (.bool false) (zero4 _) ?_)
    go_ret
    exact .same H1.out.dm h.bl (grownBy_alloc _ _ _)
  | none =>
    have H1 := Lib.hid h1
    have HS := Lib.hid hs
    have hv : (l.get s).getD (.bool false) = .bool false := by rw [hs]; rfl
    have hi : (l.get s).isSome = false := by rw [hs]; rfl
    have HL := Lib.hid h.bl
    have hlt := h.dm.lt
    have hbk := h.hbk
    clear h1 hs
    go_enter Tryz.func31, Tryz.ntmps31
    go_wp2_with (first | (at_lookup; refine wpList_lookup_s _ rfl _ _ 103 true rfl 9 4 Tryz.underlying103 Tryz.underlying9 l dn rfl H1.out.dm s rfl (.bool false) (zero4 _) ?_) | (at_mapUpdate; refine wpList_mapUpdate_s _ rfl _ _ _ 103 rfl 9 4 Tryz.underlying103 Tryz.underlying9 l dn rfl H1.out.dm s rfl (.bool true) rfl ?_; intro w2 hm2 hg2 hz2; refine Hid.out ?_))
    refine Lib.hid ?_
    have h2 := H1.out.step hg2 hm2 (HL.out.put s true)
    have e0 : w2.cell? ⟨w.heap.size, 2, none⟩ = some (.string s) := by
      rw [World.cell?_of_block (w := w.alloc (.cells #[.int .i64 14, .int .i64 n, .string s, va, vb] 26)) (hg2.block w.heap.size (by simp) (fun e => by injection e; omega))]
      simp [go_sem]
    have f0 := h2.book.c0
    obtain ⟨lv, hlv, A, ca, B, cb, hval, _, hty⟩ := h2.book.nm.look s
    have hlk : (Instr.lookup 72 (.map (some mn)) (.string s) false).run Tryz.prog w2.drew =
        .ok (.agg #[.int .i64 (envT env s).kind, .int .i64 (envT env s).n, .string (envT env s).s, .slice A (envT env s).of.length ca, .slice B (envT env s).fields.length cb]) w2.drew := by
      rw [run_lookup_s (w := w2.drew) Tryz.underlying72 Tryz.underlying9 (hlv.keep rfl) s z26 (zero26 _) false]
      simp [hval]
    have H2 := Lib.hid h2
    have HT := Lib.hid hty
    have HG2 := Lib.hid hg2
    clear h2 hty hlv hval hg2
    go_upto_region 7 with fail
    go_still_tail 9, (by kernel_rfl)
    go_wp2_with fail
    refine (HR.out HS.out _ _ (by exact H2.out.of_heap rfl) (by exact HT.out.of_heap rfl)).mono ?_
    rintro e w3 ⟨r, l3, rfl, hm3, hb3, hk3, hg3⟩
    have e3 : w3.cell? ⟨w.heap.size, 2, none⟩ = some (.string s) :=
      (World.cell?_of_block (w := w2) ((grownBy_of_drew hg3).block w.heap.size (by have := HG2.out.size; simp at this; omega) (fun e => by injection e; omega))).trans e0
    have HG3 := Lib.hid (grownBy_of_drew hg3)
    have HB3 := Lib.hid hb3
    have HK3 := Lib.hid hk3
    clear hg3 hb3 hk3 e0 f0 hlk
    go_wp2_with (at_mapUpdate; refine wpList_mapUpdate_s _ rfl _ _ _ 103 rfl 9 4 Tryz.underlying103 Tryz.underlying9 l3 dn rfl hm3 s rfl (.bool false) rfl ?_; intro w4 hm4 hg4 hz4; have HG4 := Lib.hid hg4; clear hg4)
    go_ret
    refine ⟨r, _, rfl, hm4, HB3.out.put s false, fun t ht => ?_, grownBy_trans (grownBy_trans (grownBy_trans (grownBy_alloc w _ _) HG2.out) HG3.out) HG4.out⟩
    have := HK3.out t
    rw [AL.get_put] at this ⊢
    split
    · simp
    · rename_i hts; rw [if_neg hts] at this; exact this ht


theorem ends_other {env : AL Ty} {bk mn mm dn : Nat} {left : Int} {c : Nat} {T : Ty} (h12 : T.kind ≠ 10) (h13 : T.kind ≠ 13) (h14 : T.kind ≠ 14) : LOk 31 env bk mn mm dn left c T := by
  intro w l cs _ h hT
  cases T with
  | mk k n s of fs =>
  simp only [Ty.kind] at h12 h13 h14
  obtain ⟨A, co, B, cf, rfl, _⟩ := hT
  have H := Lib.hid h
  clear h
  go_enter Tryz.func31, Tryz.ntmps31
  go_wp2
  go_ret
  exact .same (H.out.dm.keep (Below.heap_alloc w _ dn H.out.dm.lt)) H.out.bl (grownBy_alloc _ _ _)

theorem ends_ptr {env : AL Ty} {bk mn mm dn : Nat} {left : Int} {c : Nat} {n : Int} {s : ByteArray} {t : Ty} {fs : List Fl} (rec : LOk 31 env bk mn mm dn left c t) : LOk 31 env bk mn mm dn left c (.mk 10 n s [t] fs) := by
  intro w l cs hc h hT
  obtain ⟨A, co, B, cf, rfl, _, hof, _⟩ := hT
  obtain ⟨b, off, A', ca, B', cb, rfl, ha, hty, hcell⟩ := TysV.at_ (j := 0) hof rfl
  simp only [Nat.zero_mul, Nat.add_zero] at hcell
  obtain ⟨c0, c1, c2, c3, c4⟩ := hcell
  have hb : b < w.heap.size := Nat.lt_trans ha h.dm.lt
  have h1 : ∀ o, LPre (w.alloc o) bk mn mm dn env left l := fun o => h.step (grownBy_alloc w o _) (h.dm.keep (Below.heap_alloc w _ dn h.dm.lt)) h.bl
  have ht1 : ∀ o, TyV (w.alloc o) (· < dn) t _ := fun o => TyV.keep (fun b hb => ⟨hb, Below.heap_alloc w o b (Nat.lt_trans hb h.dm.lt)⟩) _ _ hty
  have R := Lib.hid rec
  have H1 := Lib.hid h1
  have HT := Lib.hid ht1
  clear rec h1 ht1 hof hty h
  go_enter Tryz.func31, Tryz.ntmps31
  go_wp2_with (go_at_call 31; refine (R.out _ l _ hc (by exact H1.out _) (by exact HT.out _)).mono ?_; rintro e w1 ⟨r, l1, rfl, hm1, hb1, hk1, hg1⟩; have X := Lib.hid (show _ ∧ _ ∧ _ ∧ _ from ⟨hm1, hb1, hk1, hg1⟩); clear hm1 hb1 hk1 hg1)
  go_ret
  exact ⟨r, l1, rfl, X.out.1, X.out.2.1, X.out.2.2.1, grownBy_trans (grownBy_alloc w _ _) X.out.2.2.2⟩

set_option maxHeartbeats 1600000 in
set_option maxRecDepth 100000 in
theorem ends_struct {env : AL Ty} {bk mn mm dn : Nat} {left : Int} {c : Nat} {n : Int} {s : ByteArray} {of : List Ty} {fs : List Fl} (rec : ∀ f ∈ fs, LOk 31 env bk mn mm dn left c f.t) : LOk 31 env bk mn mm dn left c (.mk 13 n s of fs) := by
  intro w l cs hc h hT
  obtain ⟨A, co, B, cf, rfl, hbig, _, hfs⟩ := hT
  have hbig : s.size ≤ 140737488351232 ∧ of.length ≤ 140737488351232 ∧ fs.length ≤ 140737488351232 := hbig
  have R := Lib.hid rec
  have H0 := Lib.hid h
  clear rec
  go_enter Tryz.func31, Tryz.ntmps31
  go_wp2_with fail
  go_loopw [57] (fun i wr => ∃ (j : Nat) (l' : AL Value), i = .int .i64 j ∧ j ≤ fs.length ∧ LPre wr bk mn mm dn env left l' ∧ undone env l' ≤ c ∧ (∀ s, l.get s ≠ none → l'.get s ≠ none) ∧ w.grownBy wr (some dn)) (fun i _ => fs.length - (intOf i).toNat)
  case atStart => exact ⟨0, l, rfl, Nat.zero_le _, H0.out.step (grownBy_alloc w _ _) (H0.out.dm.keep (Below.heap_alloc w _ dn H0.out.dm.lt)) H0.out.bl, hc, fun _ h => h, grownBy_alloc w _ _⟩
  case round =>
    obtain ⟨j, l', rfl, hj, hp, hc', hk, hg⟩ := hrel
    by_cases hlt : j < fs.length
    · obtain ⟨f, hf⟩ : ∃ f, fs[j]? = some f := ⟨_, List.getElem?_eq_getElem hlt⟩
      obtain ⟨b, off, A', ca, B', cb, rfl, ha, _, hty, hcell⟩ := FlsV.at_ hfs hf
      have hblk : ∀ b, b < dn → wr.heap[b]? = w.heap[b]? := fun b hb => hg.block b (Nat.lt_trans hb H0.out.dm.lt) (fun e => by injection e; omega)
      have ⟨e0, e1, e2, e3, e4, e5, e6, e7⟩ := hcell
      rw [← World.cell?_of_block (w' := wr) (hblk _ ha)] at e0 e1 e2 e3 e4 e5 e6 e7
      have ht1 : ∀ o, TyV (wr.alloc o) (· < dn) f.t _ := fun o => TyV.keep (fun b hb => ⟨hb, (Below.heap_alloc wr o b (Nat.lt_trans hb hp.dm.lt)).trans (hblk b hb)⟩) _ _ hty
      have h1 : ∀ o, LPre (wr.alloc o) bk mn mm dn env left l' := fun o => hp.step (grownBy_alloc wr o _) (hp.dm.keep (Below.heap_alloc wr _ dn hp.dm.lt)) hp.bl
      have hm := List.mem_of_getElem? hf
      have HF := Lib.hid (R.out f hm)
      have HT := Lib.hid ht1
      have H1 := Lib.hid h1
      have HP := Lib.hid hp
      have HK := Lib.hid hk
      have HG := Lib.hid hg
      clear hty hcell hblk hp hk hg hf hm ht1 h1
      have arm : ∀ o e w2, LPost (wr.alloc o) dn l' e w2 → ∃ r l2, e = .returned (.bool r) ∧ LPre w2 bk mn mm dn env left l2 ∧ undone env l2 ≤ c ∧ (∀ s, l.get s ≠ none → l2.get s ≠ none) ∧ w.grownBy w2 (some dn) := by
        rintro o e w2 ⟨r, l2, rfl, hm2, hb2, hk2, hg2⟩
        exact ⟨r, l2, rfl, (H1.out o).step hg2 hm2 hb2, Nat.le_trans (undone_mono hk2) hc', fun s hs => hk2 s (HK.out s hs), grownBy_trans (grownBy_trans HG.out (grownBy_alloc wr o _)) hg2⟩
      have ARM := Lib.hid arm
      clear arm
      go_wp2_with (go_at_call 31; refine (HF.out _ l' _ hc' (by exact H1.out _) (by exact HT.out _)).mono ?_; rintro e w2 hx; obtain ⟨r, l2, rfl, X⟩ := ARM.out _ _ _ hx; have Y := Lib.hid X; clear X hx)
      · go_ret
        exact ⟨_, l2, rfl, Y.out.1.dm, Y.out.1.bl, Y.out.2.2.1, Y.out.2.2.2⟩
      · go_roundw
        case rel => exact ⟨j + 1, l2, by go_num, by omega, Y.out⟩
        case measure => simp [intOf]; omega
    · have HP := Lib.hid hp
      have HK := Lib.hid hk
      have HG := Lib.hid hg
      clear hp hk hg
      go_wp2
      go_ret
      exact ⟨_, l', rfl, HP.out.dm, HP.out.bl, HK.out, HG.out⟩

/-- ends at every type. -/
theorem ends_any {env : AL Ty} (hE : wfE env) {bk mn mm dn : Nat} {left : Int} : ∀ (c n : Nat) (T : Ty), T.sz ≤ n → T.wf0 → LOk 31 env bk mn mm dn left c T := by
  intro c
  induction c using Nat.strongRecOn with
  | _ c ihc =>
  intro n
  induction n with
  | zero => intro T h; have := T.sz_pos; omega
  | succ n ihn =>
    intro T hn hw
    cases T with
    | mk k n' s of fs =>
    simp only [Ty.sz] at hn
    by_cases h14 : k = 14
    · subst h14
      intro w l cs hc h hT
      obtain ⟨A, co, B, cf, rfl, _⟩ := hT
      refine ends_named env s n' _ _ w bk mn mm dn left l h fun hl w' cs' h' hT' => ?_
      cases he : env.get s with
      | none =>
        have hz : envT env s = zeroTy := by simp [envT, he]
        rw [hz] at hT'
        exact ends_other (c := c) (by decide) (by decide) (by decide) w' _ cs' (Nat.le_trans (undone_put_le env l s _) hc) h' hT'
      | some T =>
        obtain ⟨c', h1, h2⟩ := undone_lt_of (.bool true) he hl hc
        exact ihc c' h1 _ (envT env s) (Nat.le_refl _) (envT_wf0 hE s) w' _ cs' h2 h' hT'
    · by_cases h12 : k = 10
      · subst h12
        obtain ⟨t, rfl, hw'⟩ := wf_of_ptr hw (by simp)
        exact ends_ptr (ihn t (by simp only [szs] at hn; omega) (Or.inl hw'))
      · by_cases h13 : k = 13
        · subst h13
          exact ends_struct fun f hf => ihn f.t (by have := (mem_sz hf).1; omega) (Or.inl ((mem_sz hf).2 (wff_of hw)))
        · exact ends_other h12 h13 h14

def AllT (l : AL Value) : Prop := ∀ s v, l.get s = some v → v = .bool true
theorem AllT.put {l : AL Value} (h : AllT l) (s : ByteArray) : AllT (l.put s (.bool true)) := by
  intro t v ht
  rw [AL.get_put] at ht
  split at ht
  · exact (Option.some.inj ht).symm
  · exact h t v ht
/-- What lists leaves. -/
def LPostT (w : World) (dn : Nat) (e : Ending) (w' : World) : Prop :=
  ∃ r l', e = .returned (.bool r) ∧ SMap w' dn l' ∧ w.grownBy w' (some dn)
def LOkT (env : AL Ty) (bk mn mm dn : Nat) (left : Int) (c : Nat) (T : Ty) : Prop :=
  ∀ (w : World) (l : AL Value) (cs : List Value), undone env l ≤ c → AllT l → LPre w bk mn mm dn env left l → TyV w (· < dn) T cs →
    Calls Tryz.prog 34 #[.pointer (some ⟨bk, 0, none⟩), .agg cs.toArray, .map (some dn)] w (LPostT w dn)

set_option maxHeartbeats 1600000 in
set_option maxRecDepth 100000 in
theorem lists_named (env : AL Ty) (s : ByteArray) (n : Int) (va vb : Value) (w : World) (bk mn mm dn : Nat) (left : Int) (l : AL Value) (h : LPre w bk mn mm dn env left l) (ht : AllT l)
    (rec : l.get s = none → ∀ (w' : World) (cs : List Value), LPre w' bk mn mm dn env left (l.put s (.bool true)) → TyV w' (· < dn) (envT env s) cs →
      Calls Tryz.prog 34 #[.pointer (some ⟨bk, 0, none⟩), .agg cs.toArray, .map (some dn)] w' (LPostT w' dn)) :
    Calls Tryz.prog 34 #[.pointer (some ⟨bk, 0, none⟩), .agg #[.int .i64 14, .int .i64 n, .string s, va, vb], .map (some dn)] w (LPostT w dn) := by
  have h1 := h.step (grownBy_alloc w (.cells #[.int .i64 14, .int .i64 n, .string s, va, vb] 26) _) (h.dm.keep (Below.heap_alloc w _ dn h.dm.lt)) h.bl
  have HR := Lib.hid rec
  clear rec
  cases hs : l.get s with
  | some v =>
    obtain rfl := ht s v hs
    have H1 := Lib.hid h1
    have hv : (l.get s).getD (.bool false) = .bool true := by rw [hs]; rfl
    clear h1 ht
    go_enter Tryz.func34, Tryz.ntmps34
    go_wp2_with (at_lookup; refine wpList_lookup_s _ rfl _ _ 103 false rfl 9 4 Tryz.underlying103 Tryz.underlying9 l dn rfl H1.out.dm s rfl (.bool false) (zero4 _) ?_)
    go_ret
    exact ⟨true, l, rfl, H1.out.dm, grownBy_alloc _ _ _⟩
  | none =>
    have H1 := Lib.hid h1
    have HS := Lib.hid hs
    have hv : (l.get s).getD (.bool false) = .bool false := by rw [hs]; rfl
    have HL := Lib.hid h.bl
    have hlt := h.dm.lt
    have hbk := h.hbk
    clear h1 hs ht
    go_enter Tryz.func34, Tryz.ntmps34
    go_wp2_with (first | (at_lookup; refine wpList_lookup_s _ rfl _ _ 103 false rfl 9 4 Tryz.underlying103 Tryz.underlying9 l dn rfl H1.out.dm s rfl (.bool false) (zero4 _) ?_) | (at_mapUpdate; refine wpList_mapUpdate_s _ rfl _ _ _ 103 rfl 9 4 Tryz.underlying103 Tryz.underlying9 l dn rfl H1.out.dm s rfl (.bool true) rfl ?_; intro w2 hm2 hg2 hz2; refine Hid.out ?_))
    refine Lib.hid ?_
    have h2 := H1.out.step hg2 hm2 (HL.out.put s true)
    have e0 : w2.cell? ⟨w.heap.size, 2, none⟩ = some (.string s) := by
      rw [World.cell?_of_block (w := w.alloc (.cells #[.int .i64 14, .int .i64 n, .string s, va, vb] 26)) (hg2.block w.heap.size (by simp) (fun e => by injection e; omega))]
      simp [go_sem]
    have f0 := h2.book.c0
    obtain ⟨lv, hlv, A, ca, B, cb, hval, _, hty⟩ := h2.book.nm.look s
    have hlk : (Instr.lookup 72 (.map (some mn)) (.string s) false).run Tryz.prog w2.drew =
        .ok (.agg #[.int .i64 (envT env s).kind, .int .i64 (envT env s).n, .string (envT env s).s, .slice A (envT env s).of.length ca, .slice B (envT env s).fields.length cb]) w2.drew := by
      rw [run_lookup_s (w := w2.drew) Tryz.underlying72 Tryz.underlying9 (hlv.keep rfl) s z26 (zero26 _) false]
      simp [hval]
    have H2 := Lib.hid h2
    have HT := Lib.hid hty
    have HG2 := Lib.hid hg2
    clear h2 hty hlv hval hg2
    go_upto_region 6 with fail
    go_still_tail 9, (by kernel_rfl)
    go_wp2_with fail
    refine (HR.out HS.out _ _ (by exact H2.out.of_heap rfl) (by exact HT.out.of_heap rfl)).mono ?_
    rintro e w3 ⟨r, l3, rfl, hm3, hg3⟩
    have HG3 := Lib.hid (grownBy_of_drew hg3)
    have HM3 := Lib.hid hm3
    clear hg3 hm3 e0 f0 hlk
    go_wp2
    go_ret
    exact ⟨r, l3, rfl, HM3.out, grownBy_trans (grownBy_trans (grownBy_alloc w _ _) HG2.out) HG3.out⟩

theorem lists_other {env : AL Ty} {bk mn mm dn : Nat} {left : Int} {c : Nat} {T : Ty} (h12 : T.kind ≠ 12) (h9 : T.kind ≠ 9) (h14 : T.kind ≠ 14) : LOkT env bk mn mm dn left c T := by
  intro w l cs _ _ h hT
  cases T with
  | mk k n s of fs =>
  simp only [Ty.kind] at h12 h9 h14
  obtain ⟨A, co, B, cf, rfl, _⟩ := hT
  have H := Lib.hid h
  clear h
  go_enter Tryz.func34, Tryz.ntmps34
  go_wp2
  go_ret
  exact ⟨_, l, rfl, H.out.dm.keep (Below.heap_alloc w _ dn H.out.dm.lt), grownBy_alloc _ _ _⟩

theorem lists_of {env : AL Ty} {bk mn mm dn : Nat} {left : Int} {c : Nat} {k n : Int} (hk : k = 9 ∨ k = 12) {s : ByteArray} {t : Ty} {fs : List Fl} (rec : LOkT env bk mn mm dn left c t) : LOkT env bk mn mm dn left c (.mk k n s [t] fs) := by
  intro w l cs hc ht h hT
  obtain ⟨A, co, B, cf, rfl, _, hof, _⟩ := hT
  obtain ⟨b, off, A', ca, B', cb, rfl, ha, hty, hcell⟩ := TysV.at_ (j := 0) hof rfl
  simp only [Nat.zero_mul, Nat.add_zero] at hcell
  obtain ⟨c0, c1, c2, c3, c4⟩ := hcell
  have hb : b < w.heap.size := Nat.lt_trans ha h.dm.lt
  have h1 : ∀ o, LPre (w.alloc o) bk mn mm dn env left l := fun o => h.step (grownBy_alloc w o _) (h.dm.keep (Below.heap_alloc w _ dn h.dm.lt)) h.bl
  have ht1 : ∀ o, TyV (w.alloc o) (· < dn) t _ := fun o => TyV.keep (fun b hb => ⟨hb, Below.heap_alloc w o b (Nat.lt_trans hb h.dm.lt)⟩) _ _ hty
  have R := Lib.hid rec
  have H1 := Lib.hid h1
  have HT := Lib.hid ht1
  have HA := Lib.hid ht
  clear rec h1 ht1 hof hty h ht
  rcases hk with rfl | rfl
  all_goals
    go_enter Tryz.func34, Tryz.ntmps34
    go_wp2_with (go_at_call 34; refine (R.out _ l _ hc HA.out (by exact H1.out _) (by exact HT.out _)).mono ?_; rintro e w1 ⟨r, l1, rfl, hm1, hg1⟩; have X := Lib.hid (show _ ∧ _ from ⟨hm1, hg1⟩); clear hm1 hg1)
    go_ret
    exact ⟨r, l1, rfl, X.out.1, grownBy_trans (grownBy_alloc w _ _) X.out.2⟩

/-- lists at every type. -/
theorem lists_any {env : AL Ty} (hE : wfE env) {bk mn mm dn : Nat} {left : Int} : ∀ (c n : Nat) (T : Ty), T.sz ≤ n → T.wf0 → LOkT env bk mn mm dn left c T := by
  intro c
  induction c using Nat.strongRecOn with
  | _ c ihc =>
  intro n
  induction n with
  | zero => intro T h; have := T.sz_pos; omega
  | succ n ihn =>
    intro T hn hw
    cases T with
    | mk k n' s of fs =>
    simp only [Ty.sz] at hn
    by_cases h14 : k = 14
    · subst h14
      intro w l cs hc ht h hT
      obtain ⟨A, co, B, cf, rfl, _⟩ := hT
      refine lists_named env s n' _ _ w bk mn mm dn left l h ht fun hl w' cs' h' hT' => ?_
      cases he : env.get s with
      | none =>
        have hz : envT env s = zeroTy := by simp [envT, he]
        rw [hz] at hT'
        exact lists_other (c := c) (by decide) (by decide) (by decide) w' _ cs' (Nat.le_trans (undone_put_le env l s _) hc) (ht.put s) h' hT'
      | some T =>
        obtain ⟨c', h1, h2⟩ := undone_lt_of (.bool true) he hl hc
        exact ihc c' h1 _ (envT env s) (Nat.le_refl _) (envT_wf0 hE s) w' _ cs' h2 (ht.put s) h' hT'
    · by_cases h912 : k = 9 ∨ k = 12
      · obtain ⟨t, rfl, hw'⟩ := wf_of_ptr hw (by omega)
        exact lists_of h912 (ihn t (by simp only [szs] at hn; omega) (Or.inl hw'))
      · exact lists_other (by simp only [Ty.kind]; omega) (by simp only [Ty.kind]; omega) h14
end Go.Proofs.YtnmgocbmofbppaaGreatDoor
namespace Go.Proofs.YtnmgocbmofbppaaGreatDoor
open Go.RowKit



theorem SPre.ext {w w' : World} {B bk mn : Nat} {env : AL Ty} {cb co : Nat} {left : Int} {S : Nat → Prop} (h : SPre w B bk mn env cb co left) (hx : Ext S w w') (hS : ∀ k, S k → B ≤ k ∧ k ≠ bk ∧ k ≠ cb ∧ k ≠ mn) : SPre w' B bk mn env cb co left := by
  have h1 := h.hlt
  have h2 := h.ltc
  have h3 := h.nm.ltm
  have hb : ∀ k, k < w.heap.size → (k < B ∨ k = bk ∨ k = cb ∨ k = mn) → w'.heap[k]? = w.heap[k]? := fun k hk ho => hx.block k hk fun e => by have := hS k e; omega
  exact ⟨(World.cell?_of_block (hb bk h1 (by omega))).trans h.c0, (World.cell?_of_block (hb cb h2 (by omega))).trans h.cl, (World.frozen?_of_block (hb cb h2 (by omega))).trans h.nf,
    h.nm.keep (hb mn h3 (by omega)) fun b hbB => ⟨hbB, hb b (by have := h.hB; omega) (.inl hbB)⟩, h.hB, h.hne, h.hmn, Nat.lt_of_lt_of_le h1 hx.size⟩

/-- A new map of done names is laid, and loops, lists or ends is called. -/
theorem SPre.lpre {w : World} {B bk mn : Nat} {env : AL Ty} {cb co : Nat} {left : Int} (h : SPre w B bk mn env cb co left) : LPre (w.alloc (.map #[] 0)) bk mn 0 w.heap.size env 0 [] := by
  have h1 := h.alloc (.map #[] 0)
  exact ⟨⟨h1.c0, h1.nm.keep rfl fun b hb => ⟨by have := h.hB; have := h.ltc; omega, rfl⟩⟩, h.hlt, h.nm.ltm, SMap.new w, Bools.nil⟩
theorem grown_new {w w' : World} {o : Obj} (h : (w.alloc o).grownBy w' (some w.heap.size)) (S : Nat → Prop) : Ext S w w' :=
  ⟨h.os, h.tape, h.output, by have := h.size; simp at this; omega, fun k hk _ => (h.block k (by simp; omega) (fun e => by injection e; omega)).trans (Below.heap_alloc w o k hk)⟩

theorem loops_call {env : AL Ty} (hE : wfE env) {w : World} {B bk mn cb co : Nat} {left : Int} {T : Ty} {cs : List Value} (h : SPre w B bk mn env cb co left) (hw : T.wf0) (hT : TyV w (· < B) T cs) :
    Calls Tryz.prog 33 #[.pointer (some ⟨bk, 0, none⟩), .agg cs.toArray, .map (some w.heap.size)] (w.alloc (.map #[] 0)) fun e w' => ∃ r, e = .returned (.bool r) ∧ SPre w' B bk mn env cb co left ∧ Ext (fun _ => False) w w' := by
  refine (loops_any hE (undone env []) T.sz T (Nat.le_refl _) hw _ [] cs (Nat.le_refl _) h.lpre ?_).mono ?_
  · exact TyV.keep (fun b hb => ⟨by have := h.hB; have := h.ltc; omega, Below.heap_alloc w _ b (by have := h.hB; have := h.ltc; omega)⟩) _ _ hT
  · rintro e w' ⟨r, l', rfl, _, _, _, hg⟩
    have hx := grown_new hg (fun _ => False)
    exact ⟨r, rfl, h.ext hx (fun k hk => hk.elim), hx⟩

/-- What soundIn leaves. -/
def SiPost (w : World) (B bk mn : Nat) (env : AL Ty) (cb : Nat) (left : Int) (T : Ty) (e : Ending) (w' : World) : Prop :=
  ∃ r L, e = .returned (.bool r) ∧ SPre w' B bk mn env cb 0 L ∧ L ≤ left ∧ (r = true → 0 ≤ L ∧ WaysOk env T) ∧ Ext (· = cb) w w'
def SiOk (B bk mn : Nat) (env : AL Ty) (cb : Nat) (T : Ty) : Prop :=
  ∀ (w : World) (left : Int) (cs : List Value), 0 ≤ left → left ≤ 1000000 → SPre w B bk mn env cb 0 left → TyV w (· < B) T cs →
    Calls Tryz.prog 37 #[.pointer (some ⟨bk, 0, none⟩), .agg cs.toArray, .pointer (some ⟨cb, 0, none⟩)] w (SiPost w B bk mn env cb left T)

set_option maxHeartbeats 1600000 in
set_option maxRecDepth 100000 in
theorem soundIn_any {B bk mn : Nat} {env : AL Ty} {cb : Nat} (hE : wfE env) : ∀ (N : Nat) (T : Ty), T.sz ≤ N → T.wf0 → SiOk B bk mn env cb T := by
  intro N
  induction N with
  | zero => intro T h; have := T.sz_pos; omega
  | succ N ih =>
    intro T hN hw w left cs h0 hM h hT
    cases T with
    | mk k n s of fs =>
    obtain ⟨A, co, D, cf, rfl, hbig, hof, hfs⟩ := hT
    have hbig : s.size ≤ 140737488351232 ∧ of.length ≤ 140737488351232 ∧ fs.length ≤ 140737488351232 := hbig
    have hT : TyV w (· < B) (.mk k n s of fs) [.int .i64 k, .int .i64 n, .string s, .slice A of.length co, .slice D fs.length cf] := ⟨A, co, D, cf, rfl, hbig, hof, hfs⟩
    have H := Lib.hid h
    have HT := Lib.hid hT
    have IH := Lib.hid ih
    have hB := h.hB
    have hlc := h.ltc
    clear h ih hT
    have hmm := @run_makeMap Tryz.prog
    go_enter Tryz.func37, Tryz.ntmps37
    go_upto_region 0 with fail
    go_cut [4, 6] (fun s4 s6 wx => s4 = .pointer (some ⟨w.heap.size, 0, none⟩) ∧ s6 = .bool false ∧ SPre wx B bk mn env cb 0 left ∧ Box5' wx w.heap.size (.int .i64 k) (.int .i64 n) (.string s) (.slice A of.length co) (.slice D fs.length cf) ∧ Ext (· = cb) w wx ∧ w.heap.size < wx.heap.size)
    case first =>
      go_wp2
      go_meet
      exact ⟨rfl, rfl, H.out.alloc _, Box5'.new _ _ _ _ _ _ _, Ext.alloc _ _, by simp⟩
    case rest =>
      obtain ⟨rfl, rfl, hp, hb5, hx, hs⟩ := hcut
      have ⟨d0, d1, d2, d3, d4⟩ := hb5
      have HB5 := Lib.hid hb5
      have HP := Lib.hid hp
      have HX := Lib.hid hx
      have hkeep : ∀ w2, Ext (· = cb) w w2 → TyV w2 (· < B) (.mk k n s of fs) [.int .i64 k, .int .i64 n, .string s, .slice A of.length co, .slice D fs.length cf] := fun w2 hx2 => TyV.keep (fun b hb => ⟨hb, hx2.block b (by omega) (by omega)⟩) _ _ HT.out
      have HKP := Lib.hid hkeep
      clear hp hx hkeep hb5
      go_upto_region 1 with fail
      go_cut [21] (fun s21 wx => ∃ r L, s21 = .bool r ∧ SPre wx B bk mn env cb 0 L ∧ L ≤ left ∧ (r = false → 0 ≤ L ∧ WaysOk env (.mk k n s of fs)) ∧ Ext (· = cb) w wx ∧ w.heap.size < wx.heap.size ∧ Box5' wx w.heap.size (.int .i64 k) (.int .i64 n) (.string s) (.slice A of.length co) (.slice D fs.length cf))
      case first =>
        go_wp2_with (first | (go_at_call 33; refine (loops_call hE HP.out hw (HKP.out _ HX.out)).mono ?_; rintro e w2 ⟨r, rfl, hp2, hx2⟩; have hx3 := HX.out.trans (hx2.mono fun _ _ h => h.elim); have hs3 := Nat.lt_of_lt_of_le hs hx2.size; have hb5 := HB5.out.keep (hx2.block _ hs (fun h => h)); have ⟨f0, f1, f2, f3, f4⟩ := hb5; have HB6 := Lib.hid hb5; have HX3 := Lib.hid hx3; have HP2 := Lib.hid hp2; clear hp2 hx2 hx3 hb5; cases r) | (go_at_call 35; refine (ways_any hE 1000000 _ hw _ left _ (by omega) (by omega) (by omega) HP2.out (HKP.out _ HX3.out)).mono ?_; rintro e w4 ⟨r, L, rfl, hp4, hL, hL1, hL2, hr, hx4⟩; have HX4 := Lib.hid (HX3.out.trans hx4); have hs4 := Nat.lt_of_lt_of_le hs3 hx4.size; have HP4 := Lib.hid hp4; have HR4 := Lib.hid hr; have HB7 := Lib.hid (HB6.out.keep (hx4.block _ hs3 (by omega))); clear hp4 hx4 hr hL1 hL2; cases r))
        · go_meet
          exact ⟨true, L, rfl, HP4.out, by omega, (fun h => nomatch h), HX4.out, hs4, HB7.out⟩
        · go_meet
          exact ⟨false, L, rfl, HP4.out, by omega, (fun _ => HR4.out (by simp)), HX4.out, hs4, HB7.out⟩
        · go_meet
          exact ⟨true, left, rfl, HP2.out, by omega, (fun h => nomatch h), HX3.out, hs3, HB6.out⟩
      case rest =>
        clear d0 d1 d2 d3 d4 HB5 HP HX hs
        obtain ⟨r, L, rfl, hp, hL, hr, hx, hs, hb5⟩ := hcut
        have ⟨d0, d1, d2, d3, d4⟩ := hb5
        have HP := Lib.hid hp
        have HX := Lib.hid hx
        have HB5 := Lib.hid hb5
        have HR := Lib.hid hr
        clear hp hx hr hb5
        cases r with
        | true =>
          go_wp2_with fail
          go_ret
          exact ⟨false, L, rfl, HP.out, by omega, (fun h => nomatch h), HX.out⟩
        | false =>
          have ⟨hL0, hW⟩ := HR.out rfl
          have HW := Lib.hid hW
          clear hW HR
          go_wp2_with fail
          go_loopw [25] (fun i wr => ∃ (j : Nat) (L : Int), i = .int .i64 j ∧ j ≤ of.length ∧ SPre wr B bk mn env cb 0 L ∧ 0 ≤ L ∧ L ≤ left ∧ Ext (· = cb) w wr ∧ w.heap.size < wr.heap.size ∧ Box5' wr w.heap.size (.int .i64 k) (.int .i64 n) (.string s) (.slice A of.length co) (.slice D fs.length cf)) (fun i _ => of.length - (intOf i).toNat)
          case atStart => exact ⟨0, L, rfl, Nat.zero_le _, HP.out, hL0, hL, HX.out, hs, HB5.out⟩
          case round =>
            clear d0 d1 d2 d3 d4 HB5 HP HX hs hL0
            obtain ⟨j, L1, rfl, hj, hp, hL0, hL1, hx, hs, hb5⟩ := hrel
            have ⟨d0, d1, d2, d3, d4⟩ := hb5
            by_cases hlt : j < of.length
            · obtain ⟨t, ht⟩ : ∃ t, of[j]? = some t := ⟨_, List.getElem?_eq_getElem hlt⟩
              obtain ⟨b, off, A', ca, B', cb', rfl, ha, hty, hcell⟩ := TysV.at_ hof ht
              have hblk : ∀ b, b < B → wr.heap[b]? = w.heap[b]? := fun b hb => hx.block b (by omega) (by omega)
              have ⟨e0, e1, e2, e3, e4⟩ := hcell
              rw [← World.cell?_of_block (w' := wr) (hblk _ ha)] at e0 e1 e2 e3 e4
              have ht1 : ∀ o, TyV (wr.alloc o) (· < B) t _ := fun o => TyV.keep (fun b hb => ⟨hb, (Below.heap_alloc wr o b (by omega)).trans (hblk b hb)⟩) _ _ hty
              have hmem := mem_szs (List.mem_of_getElem? ht)
              have HC := Lib.hid (IH.out t (by simp only [Ty.sz] at hN; omega) (Or.inl (hmem.2 (wfs_of hw))))
              have HT1 := Lib.hid ht1
              have HP := Lib.hid hp
              have HX := Lib.hid hx
              have HB5 := Lib.hid hb5
              clear hty hcell hblk hp hx ht ht1 hmem hb5
              go_wp2_with (go_at_call 37; refine (HC.out _ L1 _ hL0 (by omega) (by exact HP.out.alloc _) (by exact HT1.out _)).mono ?_; rintro e w2 ⟨r, L2, rfl, hp2, hL, hr, hx2⟩; have hx3 := (Ext.alloc (S := (· = cb)) wr _).trans hx2; have hs2 : w.heap.size < w2.heap.size := Nat.lt_of_lt_of_le hs hx3.size; have HB6 := Lib.hid (HB5.out.keep (hx3.block _ hs (by omega))); have HX2 := Lib.hid (HX.out.trans hx3); have HP2 := Lib.hid hp2; have HR := Lib.hid hr; clear hp2 hx2 hr hx3; cases r)
              · go_ret
                exact ⟨false, L2, rfl, HP2.out, by omega, (fun h => nomatch h), HX2.out⟩
              · have hL20 := (HR.out (by simp)).1
                go_roundw
                case rel => exact ⟨j + 1, L2, by go_num, by omega, HP2.out, hL20, by omega, HX2.out, hs2, HB6.out⟩
                case measure => simp [intOf]; omega
            · have HP := Lib.hid hp
              have HX := Lib.hid hx
              clear hp hx hb5
              go_wp2_with fail
              go_loopw [38] (fun i wr => ∃ (j : Nat) (L : Int), i = .int .i64 j ∧ j ≤ fs.length ∧ SPre wr B bk mn env cb 0 L ∧ 0 ≤ L ∧ L ≤ left ∧ Ext (· = cb) w wr ∧ w.heap.size < wr.heap.size) (fun i _ => fs.length - (intOf i).toNat)
              case atStart => exact ⟨0, L1, rfl, Nat.zero_le _, HP.out, hL0, hL1, HX.out, hs⟩
              case round =>
                clear d0 d1 d2 d3 d4 HP HX hs hL0 hL1
                obtain ⟨j2, L3, rfl, hj2, hp, hL0, hL1, hx, hs⟩ := hrel
                by_cases hlt2 : j2 < fs.length
                · obtain ⟨f, hf⟩ : ∃ f, fs[j2]? = some f := ⟨_, List.getElem?_eq_getElem hlt2⟩
                  obtain ⟨b, off, A', ca, B', cb', rfl, ha, _, hty, hcell⟩ := FlsV.at_ hfs hf
                  have hblk : ∀ b, b < B → wr.heap[b]? = w.heap[b]? := fun b hb => hx.block b (by omega) (by omega)
                  have ⟨e0, e1, e2, e3, e4, e5, e6, e7⟩ := hcell
                  rw [← World.cell?_of_block (w' := wr) (hblk _ ha)] at e0 e1 e2 e3 e4 e5 e6 e7
                  have ht1 : ∀ o, TyV (wr.alloc o) (· < B) f.t _ := fun o => TyV.keep (fun b hb => ⟨hb, (Below.heap_alloc wr o b (by omega)).trans (hblk b hb)⟩) _ _ hty
                  have hmem := mem_sz (List.mem_of_getElem? hf)
                  have HC := Lib.hid (IH.out f.t (by simp only [Ty.sz] at hN; omega) (Or.inl (hmem.2 (wff_of hw))))
                  have HT1 := Lib.hid ht1
                  have HP := Lib.hid hp
                  have HX := Lib.hid hx
                  clear hty hcell hblk hp hx hf ht1 hmem
                  go_wp2_with (go_at_call 37; refine (HC.out _ L3 _ hL0 (by omega) (by exact HP.out.alloc _) (by exact HT1.out _)).mono ?_; rintro e w2 ⟨r, L2, rfl, hp2, hL, hr, hx2⟩; have hx3 := (Ext.alloc (S := (· = cb)) wr _).trans hx2; have hs2 : w.heap.size < w2.heap.size := Nat.lt_of_lt_of_le hs hx3.size; have HX2 := Lib.hid (HX.out.trans hx3); have HP2 := Lib.hid hp2; have HR := Lib.hid hr; clear hp2 hx2 hr hx3; cases r)
                  · go_ret
                    exact ⟨false, L2, rfl, HP2.out, by omega, (fun h => nomatch h), HX2.out⟩
                  · have hL20 := (HR.out (by simp)).1
                    go_roundw
                    case rel => exact ⟨j2 + 1, L2, by go_num, by omega, HP2.out, hL20, by omega, HX2.out, hs2⟩
                    case measure => simp [intOf]; omega
                · have HP := Lib.hid hp
                  have HX := Lib.hid hx
                  clear hp hx
                  go_wp2
                  go_ret
                  exact ⟨true, L3, rfl, HP.out, by omega, (fun _ => ⟨hL0, HW.out⟩), HX.out⟩
end Go.Proofs.YtnmgocbmofbppaaGreatDoor
