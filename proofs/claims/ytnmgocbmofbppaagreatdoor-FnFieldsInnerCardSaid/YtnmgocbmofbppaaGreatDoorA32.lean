/- getTypeInfo. -/
import Derived.Test.YtnmgocbmofbppaaGreatDoorA26
import Derived.Test.YtnmgocbmofbppaaGreatDoorA31
import Derived.Deep.RegionHeldLaw
import Derived.Deep.RegionHeld3
import Derived.WalkMore
import Derived.KernelRfl
import Derived.Outline
import Derived.BigGuardPart
import Derived.Deep.DeepMust
import Derived.Deep.LoopGhost
import Derived.Deep.DeepCutAuto
import Derived.Deep.CutBlock
import Derived.Deep.QuietTactic
import Derived.BigQuiet
import Derived.Lib.Hide
import Derived.WalkSpells
import Derived.Deep.Light
import Derived.Deep.RegionWith
import Derived.WalkLawsBesides
import Derived.StillTailTactics

set_option linter.unusedVariables false
set_option linter.unusedSimpArgs false

namespace Go.Proofs.YtnmgocbmofbppaaGreatDoor
open Go.RowKit

theorem NX.cellY {S : Nat → Prop} {w w' : World} (h : NX S w w') {y i : Nat} (hy : y < w.heap.size) (hi : i ≠ 7) : w'.cell? ⟨y, i, none⟩ = w.cell? ⟨y, i, none⟩ := by
  by_cases hS : S y
  · exact h.cell y i hS hy hi
  · exact World.cell?_of_block (h.ext.block y hy hS)
theorem NX.frozenY {S : Nat → Prop} {w w' : World} (h : NX S w w') {y i : Nat} (hy : y < w.heap.size) : w'.frozen? ⟨y, i, none⟩ = w.frozen? ⟨y, i, none⟩ := by
  by_cases hS : S y
  · exact h.fz y i hS hy
  · exact World.frozen?_of_block (h.ext.block y hy hS)
theorem NX.belowB {S : Nat → Prop} {w w' : World} {B : Nat} (h : NX S w w') (hS : ∀ b, S b → B ≤ b) (hB : B ≤ w.heap.size) : Below B w w' := h.ext.below hS hB
theorem Fds.keepX {n0 : Nat} {w w' : World} {am : Am} {l : AL Ty} {fs : List Fl} {y : Nat} (h : Fds n0 w am l fs y) (hx : NX (Nm am) w w') : Fds n0 w' am l fs y := by
  obtain ⟨A, c, h1, h2⟩ := h.c5
  exact ⟨⟨A, c, (hx.cellY (lt_cell h1) (by decide)).trans h1, h2.keepX hx⟩, h.emb, h.sz, h.wf⟩
theorem sfi_parents {tg : ByteArray → ByteArray} {lk : Lk} {name tag : ByteArray} {fi : Fi} (h : sfi tg lk name tag = some fi) (hs : (tg tag).size ≤ 6000) : fi.parents.length ≤ 1000000 := by
  unfold sfi at h
  split at h
  · cases h
  · rename_i t fl hf
    have h1 := (nsOf_size (tg tag)).2
    have h2 := flagsOf_size hf
    unfold sfi2 at h
    split at h
    · cases h
    · split at h
      · obtain rfl := Option.some.inj h
        simp
      · split at h
        · unfold lkFi at h
          split at h <;> (obtain rfl := Option.some.inj h; simp)
        · unfold sfiPath at h
          split at h
          · cases h
          · split at h
            · cases h
            · split at h
              · cases h
              · split at h
                · cases h
                · obtain rfl := Option.some.inj h
                  have h3 := (split_len t ⟨#[62]⟩ (by decide)).1
                  have h4 := len_join (splitOf t ⟨#[62]⟩)
                  have h5 : (pathOf name t).length = (splitOf t ⟨#[62]⟩).length := by
                    unfold pathOf
                    split
                    · rename_i e; rw [e]
                    · rename_i e; rw [e]; simp
                  simp only [List.length_dropLast]
                  omega
/-- Field rules in memory, as addFieldInfo asks for them. -/
theorem FiV.fx {w : World} {fp i : Nat} {fi : Fi} (h : FiV w fp fi i) (hp : fi.parents.length ≤ 1000000) : ∃ ib ic A pc, (w.cell? ⟨fp, 0, none⟩ = some (.slice (some ⟨ib, 0, none⟩) 1 ic) ∧ w.cell? ⟨fp, 1, none⟩ = some (.string fi.name) ∧ w.cell? ⟨fp, 2, none⟩ = some (.string fi.xmlns) ∧
      w.cell? ⟨fp, 3, none⟩ = some (.int .i64 fi.flags) ∧ w.cell? ⟨fp, 4, none⟩ = some (.slice A fi.parents.length pc)) ∧ FxQ w (Plain w) [.slice (some ⟨ib, 0, none⟩) 1 ic, .string fi.name, .string fi.xmlns, .int .i64 fi.flags, .slice A fi.parents.length pc] ⟨fi, [i]⟩ := by
  obtain ⟨ib, h1, h2⟩ := h.idx
  obtain ⟨A, c, h3, h4⟩ := h.c4
  refine ⟨ib, 1, A, c, ⟨h1, h.c1, h.c2, h.c3, h3⟩, FxQ.plain (ok := fun _ => True) ⟨ib, 1, A, c, rfl, trivial, fun j y e => ?_, by simp, by simp, hp, fun j y e => ?_⟩⟩
  · cases j with
    | zero => simp at e; subst e; exact h2
    | succ j => simp at e
  · obtain ⟨g, h5, h6⟩ := h4 j y e
    exact ⟨g, h5, trivial, h6⟩
theorem FiV.at_ {w : World} {fp i : Nat} {fi : Fi} (h : FiV w fp fi i) (hp : fi.parents.length ≤ 1000000) : FxAt w fp 0 ⟨fi, [i]⟩ := by
  obtain ⟨ib, ic, A, pc, ⟨c0, c1, c2, c3, c4⟩, hq⟩ := h.fx hp
  refine ⟨_, hq, fun k u e => ?_⟩
  rw [Nat.zero_add]
  match k with
  | 0 => simp at e; subst e; exact c0
  | 1 => simp at e; subst e; exact c1
  | 2 => simp at e; subst e; exact c2
  | 3 => simp at e; subst e; exact c3
  | 4 => simp at e; subst e; exact c4
  | k + 5 => simp at e
theorem results_two {fn : Func} {t u : Tmp} (h : fn.results = #[.tmp t, .tmp u]) (tmps : Array Value) (P : Program) (w : World) : (results fn tmps).run P w = .ok (.tuple #[tmps.getD t undef, tmps.getD u undef]) w := by
  simp [results, h]
theorem assert76 (w : World) (p : Option Addr) : (Instr.typeAssert (.iface 76 (.pointer p)) 20 76 true).run Tryz.prog w = .ok (.tuple #[.pointer p, .bool true]) w := by kernel_rfl
theorem assert76n (w : World) : (Instr.typeAssert .nilIface 20 76 true).run Tryz.prog w = .ok (.tuple #[.pointer none, .bool false]) w := by kernel_rfl
theorem GNm.inj {n0 : Nat} {w : World} {am : Am} {l : AL Ty} (h : GNm n0 w am l) {s s' : ByteArray} {b : Nat} (e : am s = some b) (e' : am s' = some b) : s = s' := by
  have h1 := (h.name e).2.2.1
  have h2 := (h.name e').2.2.1
  rw [h1] at h2
  injection h2 with h2
  injection h2
/-- What getTypeInfo is claimed to do, with fuel n. -/
def GtiOk (tg : ByteArray → ByteArray) (U : Lib.RTab) (l : AL Ty) (n0 B : Nat) (am : Am) (n : Nat) : Prop :=
  ∀ (fs : List Fl) (T : Ty) (y c : Nat) (w : World) (ok : Nat → Prop), Cn l n fs c → c ≤ 1000000 → GNm n0 w am l → Tabs B w → Uni U B w → B ≤ n0 → B ≤ w.heap.size → Fds n0 w am l fs y → w.cell? ⟨y, 0, none⟩ = some (.int .u8 18) → (∃ m, w.cell? ⟨y, 6, none⟩ = some (.int .i64 m) ∧ m ≠ 4) →
    T.wf → T.sz ≤ 2000 → RT w (Fr n0 w am) am T y → InfoB tg (exOf U) l w ok fs y → (∀ s, am s = some y → (envT l s).fields = fs ∧ (envT l s).kind = 13) → InfoAll tg (exOf U) l am w ok → (∀ b, ok b → ¬ Nm am b ∧ b ≠ y) →
    Calls Tryz.prog 26 #[.pointer (some ⟨y, 0, none⟩)] w (GtiPost tg (exOf U) l n0 am ok n fs y w)
/-- The loop over the fields: what holds at its head. -/
def GRel (tg : ByteArray → ByteArray) (U : Lib.RTab) (l : AL Ty) (n0 : Nat) (am : Am) (ok : Nat → Prop) (n : Nat) (fs : List Fl) (w : World) (gk : Nat) (s8 : Value) (wx : World) : Prop :=
  ∃ (i : Nat) (acc : Ti) (v : Value), s8 = .int .i64 i ∧ i ≤ fs.length ∧ gk = fs.length - i ∧ gtiGo tg (exOf U) l (gti tg (exOf U) l n) (fs.take i) 0 ⟨none, []⟩ = .ok acc ∧ TSt tg (exOf U) l n0 am ok w wx acc.xn acc.fs v
/-- addFieldInfo's ending, told ahead. -/
def AddEnd (base typ ti : Nat) (L : List Fx) (v : Value) (new : Fx) (w : World) (e : Ending) (w' : World) : Prop := AddPost w base typ ti L v new e w' ∧ (∀ L', addFx L new = some L' → e = .returned .nilIface) ∧ (addFx L new = none → ∃ eb, e = .returned (.iface 90 (.pointer (some ⟨eb, 0, none⟩))) ∧ w.heap.size ≤ eb ∧ TagE w' eb typ)
theorem add_form {base typ ti : Nat} {L : List Fx} {v : Value} {new : Fx} {w : World} {e : Ending} {w' : World} (h : AddPost w base typ ti L v new e w') : AddEnd base typ ti L v new w e w' := ⟨h, fun L' e => (h.ok L' e).1, h.err⟩
theorem TSt.notOwn {tg : ByteArray → ByteArray} {ex : ByteArray → Bool} {l : AL Ty} {n0 : Nat} {am : Am} {ok : Nat → Prop} {w wr : World} {xn : Option Fx} {L : List Fx} {v : Value} (h : TSt tg ex l n0 am ok w wr xn L v) {b : Nat} (hb : Plain wr b) : b ≠ w.heap.size ∧ v.ownBlock ≠ some b :=
  ⟨fun e => h.notPlain b (.inl e) hb, fun e => h.notPlain b (.inr e) hb⟩
/-- The way to a field, one step further: its new block. -/
theorem idx_new {w9 : World} {base g c i : Nat} {idx : List Nat} (h : w9.ownsRow base 3 1 (.slice (some ⟨g, 0, none⟩) (1 + idx.length) c) (1 + idx.length) ([.int .i64 (i : Int)] ++ idx.map fun (k : Nat) => Value.int .i64 (k : Int))) : ∀ j y : Nat, (i :: idx)[j]? = some y → w9.cell? ⟨g, j, none⟩ = some (.int .i64 (y : Int)) := fun j y e => by
  have hj : j < 1 + idx.length := by have := (List.getElem?_eq_some_iff.1 e).1; simp at this; omega
  rw [h.cellAt j (by omega)]
  cases j with
  | zero => simp at e; subst e; rfl
  | succ j =>
    have e : idx[j]? = some y := by simpa using e
    simp [e]
theorem addr_add0 (b k : Nat) : (⟨b, 0, none⟩ : Addr).add k = ⟨b, k, none⟩ := by unfold Addr.add; split <;> simp_all
/-- The block of a field's rules that the range makes. -/
abbrev Blk85 (ib n ic : Nat) (a b : ByteArray) (f : Int) (PA : Option Addr) (m pc : Nat) : Obj := .cells #[.slice (some ⟨ib, 0, none⟩) n ic, .string a, .string b, .int .i64 f, .slice PA m pc] 85
theorem own_one (W : World) (A : Obj) (i : Nat) : ((W.alloc A).alloc (.cells #[.int .i64 (i : Int)] 3)).ownsRow W.heap.size 3 1 (.slice (some ⟨W.heap.size + 1, 0, none⟩) 1 1) 1 [.int .i64 (i : Int)] := by
  have := World.ownsRow_lit (base := W.heap.size) (e := 3) (size := 1) (W.alloc A) #[.int .i64 (i : Int)] 1 (by simp) (by unfold maxLen; omega) rfl
  simpa using this
/-- What the range's round has made, up to the call. -/
structure Rnd (W w9 : World) (g9 cap9 ib ic pc : Nat) (i : Nat) (z : Fx) (PA : Option Addr) : Prop where
  below : Below W.heap.size W w9
  b5 : w9.heap[W.heap.size]? = some (Blk85 ib z.idx.length ic z.fi.name z.fi.xmlns z.fi.flags PA z.fi.parents.length pc)
  idx : ∀ j y : Nat, (i :: z.idx)[j]? = some y → w9.cell? ⟨g9, j, none⟩ = some (.int .i64 (y : Int))
  g9 : W.heap.size < g9 ∧ g9 < w9.heap.size
theorem Rnd.mk_ {W w9 : World} {g9 cap9 ib ic pc i : Nat} {z : Fx} {PA : Option Addr} (hown : w9.ownsRow W.heap.size 3 1 (.slice (some ⟨g9, 0, none⟩) (1 + z.idx.length) cap9) (1 + z.idx.length) ([.int .i64 (i : Int)] ++ z.idx.map fun (k : Nat) => Value.int .i64 (k : Int)))
    (hg : ((W.alloc (Blk85 ib z.idx.length ic z.fi.name z.fi.xmlns z.fi.flags PA z.fi.parents.length pc)).alloc (.cells #[.int .i64 (i : Int)] 3)).grownBy w9 (Value.slice (some ⟨W.heap.size + 1, 0, none⟩) 1 1).ownBlock)
    (hat : (Value.slice (some ⟨W.heap.size + 1, 0, none⟩) 1 1).ownBlock = some g9 ∨ g9 = ((W.alloc (Blk85 ib z.idx.length ic z.fi.name z.fi.xmlns z.fi.flags PA z.fi.parents.length pc)).alloc (.cells #[.int .i64 (i : Int)] 3)).heap.size) (hlt : g9 < w9.heap.size) :
    Rnd W w9 g9 cap9 ib ic pc i z PA := by
  have hs := hg.size
  simp at hs
  have hb : ∀ k, k < W.heap.size + 1 → w9.heap[k]? = (W.alloc (Blk85 ib z.idx.length ic z.fi.name z.fi.xmlns z.fi.flags PA z.fi.parents.length pc)).heap[k]? := fun k hk =>
    (hg.block k (by simp; omega) (fun e => by simp [Value.ownBlock] at e; omega)).trans (Below.heap_alloc _ _ k (by simp; omega))
  refine ⟨⟨hg.os, hg.tape, hg.output, by omega, fun k hk => (hb k (by omega)).trans (Below.heap_alloc W _ k hk)⟩, (hb _ (by omega)).trans (heap_alloc_new W _), idx_new hown, ?_, hlt⟩
  rcases hat with e | e
  · simp [Value.ownBlock] at e
    omega
  · rw [e]
    simp
    omega
/-- Behind the store. -/
theorem Rnd.set_ {W w9 : World} {g9 cap9 ib ic pc i : Nat} {z : Fx} {PA : Option Addr} (h : Rnd W w9 g9 cap9 ib ic pc i z PA) (hq : FxQ W (Plain W) [.slice (some ⟨ib, 0, none⟩) z.idx.length ic, .string z.fi.name, .string z.fi.xmlns, .int .i64 z.fi.flags, .slice PA z.fi.parents.length pc] z)
    {w6 : World} (h6 : w6 = w9.setCell ⟨W.heap.size, 0, none⟩ (.slice (some ⟨g9, 0, none⟩) (1 + z.idx.length) cap9)) {new : Fx} (hnew : new = ⟨z.fi, i :: z.idx⟩) (hl : z.idx.length < 1000000) :
    Below W.heap.size W w6 ∧ FxQ w6 (Plain w6) [.slice (some ⟨g9, 0, none⟩) new.idx.length cap9, .string new.fi.name, .string new.fi.xmlns, .int .i64 new.fi.flags, .slice PA new.fi.parents.length pc] new ∧
      w6.cell? ⟨W.heap.size, 0, none⟩ = some (.slice (some ⟨g9, 0, none⟩) new.idx.length cap9) ∧ w6.cell? ⟨W.heap.size, 1, none⟩ = some (.string new.fi.name) ∧ w6.cell? ⟨W.heap.size, 2, none⟩ = some (.string new.fi.xmlns) ∧ w6.cell? ⟨W.heap.size, 3, none⟩ = some (.int .i64 new.fi.flags) ∧ w6.cell? ⟨W.heap.size, 4, none⟩ = some (.slice PA new.fi.parents.length pc) := by
  subst h6 hnew
  have hb : Below W.heap.size W (w9.setCell ⟨W.heap.size, 0, none⟩ (.slice (some ⟨g9, 0, none⟩) (1 + z.idx.length) cap9)) := h.below.setCell (Nat.le_refl _) _
  have hc : ∀ k u, (#[Value.slice (some ⟨ib, 0, none⟩) z.idx.length ic, .string z.fi.name, .string z.fi.xmlns, .int .i64 z.fi.flags, .slice PA z.fi.parents.length pc] : Array Value)[k]? = some u → w9.cell? ⟨W.heap.size, k, none⟩ = some u := fun k u e => by
    simp only [World.cell?, h.b5]
    simpa using e
  have ho : ∀ k u, k ≠ 0 → (#[Value.slice (some ⟨ib, 0, none⟩) z.idx.length ic, .string z.fi.name, .string z.fi.xmlns, .int .i64 z.fi.flags, .slice PA z.fi.parents.length pc] : Array Value)[k]? = some u → (w9.setCell ⟨W.heap.size, 0, none⟩ (.slice (some ⟨g9, 0, none⟩) (1 + z.idx.length) cap9)).cell? ⟨W.heap.size, k, none⟩ = some u := fun k u hk e =>
    (World.cell?_setCell_other _ _ _ _ (fun e => by injection e with e1 e2; omega)).trans (hc k u e)
  have hlen : 1 + z.idx.length = (i :: z.idx).length := by simp; omega
  refine ⟨hb, ?_, ?_, ho 1 _ (by decide) rfl, ho 2 _ (by decide) rfl, ho 3 _ (by decide) rfl, ho 4 _ (by decide) rfl⟩
  · have hq' : FxQ (w9.setCell ⟨W.heap.size, 0, none⟩ (.slice (some ⟨g9, 0, none⟩) (1 + z.idx.length) cap9)) (fun _ => True) _ z := hq.keep fun b hl _ => ⟨trivial, hb.block b hl⟩
    obtain ⟨ib', ic', A', pc', e1, _, _, _, _, h6, h7⟩ := hq'
    injection e1 with e1 e2
    injection e2 with _ e2
    injection e2 with _ e2
    injection e2 with _ e2
    injection e2 with e2 _
    injection e2 with e2 _ e3
    subst e2 e3
    refine FxQ.plain (ok := fun _ => True) ⟨g9, cap9, PA, pc, rfl, trivial, fun j y e => ?_, by simp, by simp; omega, h6, h7⟩
    exact (World.cell?_of_block (Below.heap_setCell w9 _ _ g9 (by have := h.g9; show g9 ≠ W.heap.size; omega))).trans (h.idx j y e)
  · rw [← hlen]
    exact World.cell?_setCell_same _ _ _ (hc 0 _ rfl)
/-- The block of a named type that is no struct: neither a pointer's nor a struct's kind. -/
theorem named_other {n0 : Nat} {w : World} {am : Am} {l : AL Ty} (hg : GNm n0 w am l) (hs : NdSz l) {s : ByteArray} {b : Nat} (e : am s = some b) (hk : (envT l s).kind ≠ 13) : ∃ k : Int, w.cell? ⟨b, 0, none⟩ = some (.int .u8 k) ∧ k ≠ 17 ∧ k ≠ 18 := by
  obtain ⟨_, _, T, hT, hN⟩ := hg.named s b e
  have hm := hs _ (get_mem l s T hT)
  have he : envT l s = T := by unfold envT; rw [hT]; rfl
  rw [he] at hk
  have hkd : NdKind T.kind := hg.ok.kd _ (get_mem l s T hT)
  obtain ⟨_, e', ke, A, fl, fc, hTB, _⟩ := hN
  have hw := hm.1
  obtain ⟨k, n, s', of, fs⟩ := T
  unfold Ty.wf at hw
  refine ⟨_, hTB.c0, fun h => hkd.1 (kOf17 h), fun h => ?_⟩
  rcases kOf18 h hw.1.1 hw.1.2 with h1 | h1 | h1 | h1
  · exact hkd.2.2.1 h1
  · exact hkd.2.2.2.1 h1
  · exact hk h1
  · exact hkd.2.2.2.2.2.2 h1
set_option maxHeartbeats 64000000 in
set_option maxRecDepth 100000 in
theorem gti_any {tg : ByteArray → ByteArray} {U : Lib.RTab} {l : AL Ty} {n0 B : Nat} {am : Am} (hTg : TagC tg B) (hs : NdSz l) : ∀ n, GtiOk tg U l n0 B am n := by
  intro n
  induction n with
  | zero => intro fs T y c w ok hc; exact hc.elim
  | succ n ih =>
    intro fs T y c w ok hc hcm hG hTb hU hBn hB hF hy0 hy6 hwf hsz hT hIB hN hIA hok
    have hyl : y < w.heap.size := lt_cell hy0
    have hdeep := hc.deep
    rcases hIB.2 with h7 | ⟨ti, t, h7, hI, hR⟩
    · obtain ⟨m, hm, hm4⟩ := hy6
      have hmb : (m == 4) = false := by simpa using hm4
      obtain ⟨A, fc, h5, hRF⟩ := hF.c5
      have hlf := szf_len fs
      have hfsz := hF.sz
      have hst0 : TSt tg (exOf U) l n0 am ok w _ none [] _ := TSt.start hG hIA 82
      have hwN : ∀ b, Nm am b → b < w.heap.size := fun b ⟨s, e⟩ => (hG.named s b e).2.1
      have k0 : ∀ o, (w.alloc o).cell? ⟨y, 0, none⟩ = some (.int .u8 18) := fun o => (World.cell?_of_block (Below.heap_alloc w o y hyl)).trans hy0
      have k6 : ∀ o, (w.alloc o).cell? ⟨y, 6, none⟩ = some (.int .i64 m) := fun o => (World.cell?_of_block (Below.heap_alloc w o y hyl)).trans hm
      have k5 : ∀ o, (w.alloc o).cell? ⟨y, 5, none⟩ = some (.slice A fs.length fc) := fun o => (World.cell?_of_block (Below.heap_alloc w o y hyl)).trans h5
      have hf7 := hIB.1
      have ha := assert76n
      have HST0 := Lib.hid hst0
      have HWN := Lib.hid hwN
      have HG := Lib.hid hG
      have HS := Lib.hid hs
      have HTG := Lib.hid hTg
      have HTB := Lib.hid hTb
      have HU := Lib.hid hU
      have HF := Lib.hid hF
      have HT := Lib.hid hT
      have HN := Lib.hid hN
      have HIA := Lib.hid hIA
      have HOK := Lib.hid hok
      have HC := Lib.hid hc
      have HD := Lib.hid hdeep
      have HIH := Lib.hid ih
      have HRF := Lib.hid hRF
      have K0 := Lib.hid k0
      have K5 := Lib.hid k5
      have K6 := Lib.hid k6
      clear hst0 hwN hG hs hTg hTb hU hF hT hIB hN hIA hok hc hdeep ih hRF k0 k5 k6
      go_enter Tryz.func26, Tryz.ntmps26
      go_wp2_with (first
        | (go_at_call 38; refine (Kind_any _ y 18 (by exact K0.out _)).mono ?_; rintro e w2 ⟨rfl, rfl⟩)
        | (go_at_call 39; refine (IsName_any _ y m (by exact K6.out _)).mono ?_; rintro e w2 ⟨rfl, rfl⟩)
        | (go_at_call 40; refine (NumField_any _ y A fs.length fc (by omega) (by exact K5.out _)).mono ?_; rintro e w2 ⟨rfl, rfl⟩))
      go_loopg [8] fs.length (fun gk s8 wx => GRel tg U l n0 am ok n fs w gk s8 wx)
      case atStart => exact ⟨0, ⟨none, []⟩, _, rfl, Nat.zero_le _, rfl, rfl, HST0.out⟩
      case round =>
        obtain ⟨i, acc, v, rfl, hi, rfl, hpre, hst⟩ := hrel
        obtain ⟨V, hV⟩ : ∃ V, V = wr := ⟨_, rfl⟩
        subst hV
        have c5V : V.cell? ⟨y, 5, none⟩ = some (.slice A fs.length fc) := (hst.nx.cellY hyl (by decide)).trans h5
        have hnB : ∀ b, Nm am b → B ≤ b := fun b ⟨s, e⟩ => Nat.le_trans hBn (HG.out.named s b e).1
        have HNB := Lib.hid hnB
        have HPRE := Lib.hid hpre
        have HST := Lib.hid hst
        clear hpre hnB HST0 K0 K5 K6 ha
        by_cases hlt : i < fs.length
        · obtain ⟨f, hf⟩ : ∃ f, fs[i]? = some f := ⟨_, List.getElem?_eq_getElem hlt⟩
          obtain ⟨fb, x, rfl, hokb, hFC, hRx⟩ := RF.at_ fs A 0 i f (HRF.out.keepX hst.nx) hf
          rw [Nat.zero_add] at hFC
          have hfz := fl_sz _ i f hf
          have hfwf : f.t.wf := (mem_sz (List.mem_of_getElem? hf)).2 HF.out.wf
          have hemb := HF.out.emb f (List.mem_of_getElem? hf)
          have HFO := Lib.hid hf
          have HFC := Lib.hid hFC
          have HRX := Lib.hid hRx
          have HEMB := Lib.hid hemb
          clear hf hokb hFC hRx hemb hst
          go_upto_region 11 with (go_at_call 41; refine (Field_any V y fb fs.length fc i f.name f.tag x f.emb (by omega) hlt (by exact c5V) HFC.out).mono ?_; rintro e w2 ⟨rfl, hb2⟩; have HB2 := Lib.hid hb2; clear hb2)
          obtain ⟨W1, hW1⟩ : ∃ W1, W1 = w2.alloc (.cells #[.string f.name, .string f.tag, .pointer (some ⟨x, 0, none⟩), .bool f.emb] 116) := ⟨_, rfl⟩
          have hbW1 : Below V.heap.size V W1 := by rw [hW1]; exact HB2.out.alloc HB2.out.size _
          have hst1 := HST.out.below hbW1
          have hRx1 : RT W1 (Fr n0 W1 am) am f.t x := HRX.out.keepX (NX.of_below hbW1)
          have e1 : W1.heap[w2.heap.size]? = some (.cells #[.string f.name, .string f.tag, .pointer (some ⟨x, 0, none⟩), .bool f.emb] 116) := by rw [hW1]; exact heap_alloc_new w2 _
          obtain ⟨pf, hpf⟩ : ∃ pf, pf = w2.heap.size := ⟨_, rfl⟩
          rw [← hpf] at e1
          rw [← hW1, ← hpf]
          have a0 : W1.cell? ⟨pf, 0, none⟩ = some (.string f.name) := by simp only [World.cell?, e1]; rfl
          have a1 : W1.cell? ⟨pf, 1, none⟩ = some (.string f.tag) := by simp only [World.cell?, e1]; rfl
          have a2 : W1.cell? ⟨pf, 2, none⟩ = some (.pointer (some ⟨x, 0, none⟩)) := by simp only [World.cell?, e1]; rfl
          have a3 : W1.cell? ⟨pf, 3, none⟩ = some (.bool f.emb) := by simp only [World.cell?, e1]; rfl
          have hpfl : pf < W1.heap.size := lt_cell a0
          have hpfw : w.heap.size < pf := by rw [hpf]; exact Nat.lt_of_lt_of_le HST.out.lt HB2.out.size
          have hpfv : V.heap.size ≤ pf := by rw [hpf]; exact HB2.out.size
          have HST1 := Lib.hid hst1
          have HRX1 := Lib.hid hRx1
          have HBW1 := Lib.hid hbW1
          clear hW1 hpf e1 hst1 hRx1 hbW1 HB2 HFC HRX
          obtain ⟨sk, hsk⟩ : ∃ sk, ((!exOf U f.name && !f.emb) || (tg f.tag).toList == [45]) = sk := ⟨_, rfl⟩
          have HSK := Lib.hid hsk
          clear hsk
          go_cut [62] from 49 to 61 (fun s62 wx => s62 = .bool sk ∧ Below W1.heap.size W1 wx)
          case first =>
            have hBW1 : Below B w W1 := HST1.out.nx.belowB HNB.out hB
            have hget : ∀ W', Below W1.heap.size W1 W' → Calls Tryz.prog 43 #[.string f.tag, .string ⟨#[120, 109, 108]⟩] W' fun e w' => e = .returned (.string (tg f.tag)) ∧ Below W'.heap.size W' w' := fun W' h' => by
              have hx := hBW1.trans (h'.mono (Nat.le_trans hB HST1.out.nx.ext.size))
              exact HTG.out.2 f.tag W' (by omega) (Nat.le_trans hB hx.size) (HTB.out.keep hx)
            have hexp : ∀ W', Below W1.heap.size W1 W' → Calls Tryz.prog 42 #[.agg #[.string f.name, .string f.tag, .pointer (some ⟨x, 0, none⟩), .bool f.emb]] W' fun e w' => e = .returned (.bool (exOf U f.name)) ∧ Below W'.heap.size W' w' := fun W' h' => by
              have hx := hBW1.trans (h'.mono (Nat.le_trans hB HST1.out.nx.ext.size))
              exact IsExported_any f.name f.tag _ f.emb W' (Nat.le_trans hB hx.size) (HU.out.keep hx) (HTB.out.keep hx)
            obtain ⟨q, hq⟩ : ∃ q, exOf U f.name = q := ⟨_, rfl⟩
            obtain ⟨d, hd⟩ : ∃ d, ((tg f.tag).toList == [45]) = d := ⟨_, rfl⟩
            obtain ⟨em, hem⟩ : ∃ em, f.emb = em := ⟨_, rfl⟩
            have hsk := HSK.out
            rw [hq, hd, hem] at hsk
            rw [hq, hem] at hexp
            rw [hem] at a3
            have HGET := Lib.hid hget
            have HEXP := Lib.hid (hexp W1 (Below.refl _ _))
            have HSK2 := Lib.hid hsk
            have HQ := Lib.hid hq
            have HEM := Lib.hid hem
            clear hget hexp hsk hq hem hBW1
            cases q <;> cases em
            all_goals
              go_wp2_with
                (first
                  | (go_at_call 43; (with_reducible refine HGT6.out.mono ?_); rintro e w7 ⟨rfl, hb7⟩; have d0 := (World.cell?_of_block (hb7.block pf hl6)).trans c0; have d1 := (World.cell?_of_block (hb7.block pf hl6)).trans c1; have d2 := (World.cell?_of_block (hb7.block pf hl6)).trans c2; have d3 := (World.cell?_of_block (hb7.block pf hl6)).trans c3; have HB7 := Lib.hid (HB6.out.trans (hb7.mono HB6.out.size)); clear hb7)
                  | (go_at_call 42; (with_reducible refine HEXP.out.mono ?_); rintro e w6 ⟨rfl, hb6⟩; have c0 := (World.cell?_of_block (hb6.block pf hpfl)).trans a0; have c1 := (World.cell?_of_block (hb6.block pf hpfl)).trans a1; have c2 := (World.cell?_of_block (hb6.block pf hpfl)).trans a2; have c3 := (World.cell?_of_block (hb6.block pf hpfl)).trans a3; have hl6 := lt_cell c0; have HB6 := Lib.hid hb6; have HGT6 := Lib.hid (HGET.out w6 HB6.out); clear hb6))
              all_goals
                go_meet
                first
                  | exact ⟨by rw [← HSK2.out]; rfl, HB7.out⟩
                  | exact ⟨by rw [← HSK2.out]; rfl, HB6.out⟩
          case rest =>
            obtain ⟨rfl, hb2⟩ := hcut
            obtain ⟨W2, hW2⟩ : ∃ W2, W2 = wc := ⟨_, rfl⟩
            subst hW2
            have hst2 := HST1.out.below hb2
            have hRx2 := HRX1.out.keepX (NX.of_below hb2)
            have b0 := (World.cell?_of_block (hb2.block pf hpfl)).trans a0
            have b1 := (World.cell?_of_block (hb2.block pf hpfl)).trans a1
            have b2 := (World.cell?_of_block (hb2.block pf hpfl)).trans a2
            have b3 := (World.cell?_of_block (hb2.block pf hpfl)).trans a3
            have hpf2 : pf < W2.heap.size := Nat.lt_of_lt_of_le hpfl hb2.size
            have hV2 : V.heap.size ≤ W2.heap.size := Nat.le_trans HBW1.out.size hb2.size
            have HST2 := Lib.hid hst2
            have HRX2 := Lib.hid hRx2
            clear hb2 hst2 hRx2 a0 a1 a2 a3 HST1 HRX1 hpfl
            cases sk with
            | true =>
              have hstep : gtiStep tg (exOf U) l (gti tg (exOf U) l n) i f acc = .ok acc := by
                unfold gtiStep
                rw [if_pos HSK.out]
              have HSTEP := Lib.hid hstep
              clear hstep
              go_wp2_with fail
              go_roundg (fs.length - (i + 1))
              case measure => omega
              case rel => exact ⟨i + 1, acc, v, by go_num, by omega, rfl, gtiGo_snoc HFO.out HPRE.out HSTEP.out, HST2.out⟩
            | false =>
              by_cases hE : f.emb = true ∧ (envT l f.name).kind = 13
              · obtain ⟨b, hab, hxb⟩ : ∃ b, am f.name = some b ∧ (x = b ∨ (W2.cell? ⟨x, 0, none⟩ = some (.int .u8 17) ∧ W2.cell? ⟨x, 2, none⟩ = some (.pointer (some ⟨b, 0, none⟩)))) := by
                  rcases emb_block HST2.out.gnm HS.out hE.1 HEMB.out HRX2.out with ⟨b, h1, h2, _⟩ | ⟨b, h1, h2, h3⟩
                  · exact ⟨b, h1, .inl h2⟩
                  · exact ⟨b, h1, .inr ⟨h2, h3⟩⟩
                obtain ⟨hb18, hFb⟩ := named_fds HST2.out.gnm HS.out hab hE.2
                have hb3' : W2.cell? ⟨pf, 3, none⟩ = some (.bool true) := by rw [b3, hE.1]
                have HE := Lib.hid hE
                have HAB := Lib.hid hab
                have HFB := Lib.hid hFb
                clear b3 hE hab hFb
                obtain ⟨kx, hkx0, hkx1, hkx2⟩ : ∃ kx : Int, W2.cell? ⟨x, 0, none⟩ = some (.int .u8 kx) ∧ (kx = 17 → W2.cell? ⟨x, 2, none⟩ = some (.pointer (some ⟨b, 0, none⟩))) ∧ (kx ≠ 17 → x = b) := by
                  rcases hxb with rfl | ⟨h1, h2⟩
                  · exact ⟨18, hb18, fun h => absurd h (by decide), fun _ => rfl⟩
                  · exact ⟨17, h1, fun _ => h2, fun h => absurd rfl h⟩
                obtain ⟨qk, hqk⟩ : ∃ q, (kx == 17) = q := ⟨_, rfl⟩
                have HK1 := Lib.hid hkx1
                have HK2 := Lib.hid hkx2
                clear hxb hkx1 hkx2
                go_upto_if 69 with (go_at_call 38; refine (Kind_any _ x kx hkx0).mono ?_; rintro e w3 ⟨rfl, rfl⟩)
                go_cut [10] from 70 to 71 (fun s10 wx => s10 = .pointer (some ⟨b, 0, none⟩) ∧ W2 = wx)
                case first =>
                  cases qk with
                  | true =>
                    have h2 := HK1.out (by simpa using hqk)
                    go_wp2_with (go_at_call 44; refine (Elem_any _ x _ h2).mono ?_; rintro e w3 ⟨rfl, rfl⟩)
                    go_meet
                    exact ⟨rfl, rfl⟩
                  | false =>
                    have h2 := HK2.out (by simpa using hqk)
                    go_wp2_with fail
                    go_meet
                    exact ⟨by rw [h2], rfl⟩
                case rest =>
                  obtain ⟨rfl, rfl⟩ := hcut
                  clear hkx0 hqk HK1 HK2
                  obtain ⟨cs, hcs1, hcs2, hcs3⟩ := HC.out
                  obtain ⟨d, hd⟩ : ∃ d, cs[i]? = some d := ⟨_, List.getElem?_eq_getElem (by omega)⟩
                  have hds := sum_mem cs i d hd
                  have hcn := hcs3 i f d HFO.out hd HE.out.1 HE.out.2
                  have hdc : d < c := by omega
                  have hpre := gti_pre (tg := tg) (ex := exOf U) hcs1 hcs2 hcs3 i acc hi HPRE.out
                  have hlen : acc.fs.length + d ≤ 1000000 := by
                    have h1 := hpre.len
                    have h2 := take_sum cs i d hd
                    have h3 := take_sum_le cs (i + 1)
                    omega
                  have hnmb : b < w.heap.size := HWN.out b ⟨_, HAB.out⟩
                  have hBW : Below B w W2 := HST2.out.nx.belowB HNB.out hB
                  have hname := HST2.out.gnm.name HAB.out
                  have hcall : Calls Tryz.prog 26 #[.pointer (some ⟨b, 0, none⟩)] W2 (GtiPost tg (exOf U) l n0 am (OkR ok w v) n (envT l f.name).fields b W2) := by
                    refine HIH.out (envT l f.name).fields (.mk 14 0 f.name [] []) b d W2 (OkR ok w v) hcn (by omega) HST2.out.gnm (HTB.out.keep hBW) (HU.out.keep hBW) hBn (Nat.le_trans hB HST2.out.nx.ext.size) HFB.out hb18 ?_ ?_ ?_ ?_ (HST2.out.info _ _ HAB.out HE.out.2) (fun s e => ?_) HST2.out.info (fun b' hb' => ⟨fun hn => ?_, fun e => ?_⟩)
                    · obtain ⟨m, h1, h2, _⟩ := hname.2.2.2
                      exact ⟨m, h1, h2⟩
                    · simp [Ty.wf, wfs, wff]
                    · have := hname.2.1
                      simp only [Ty.sz, szs, szf]
                      omega
                    · unfold RT
                      rw [if_pos rfl]
                      exact HAB.out
                    · obtain rfl := HST2.out.gnm.inj e HAB.out
                      exact ⟨rfl, HE.out.2⟩
                    · rcases hb'.1 with h1 | h1
                      · exact (HOK.out b' h1.1).1 hn
                      · have := HWN.out b' hn
                        omega
                    · subst e
                      rcases hb'.1 with h1 | h1
                      · exact (HOK.out b' h1.1).1 ⟨_, HAB.out⟩
                      · omega
                  have hcall := hcall.mono fun e w' h => (show ∃ p ev, e = .returned (.tuple #[.pointer p, ev]) ∧ GtiPost tg (exOf U) l n0 am (OkR ok w v) n (envT l f.name).fields b W2 e w' from by obtain ⟨p, ev, he⟩ := h.form; exact ⟨p, ev, he, h⟩)
                  have HCALL := Lib.hid hcall
                  have HPR := Lib.hid hpre
                  have HCN := Lib.hid hcn
                  clear hcs1 hcs2 hcs3 hd hds hcn hpre hname hcall hBW
                  go_wp2_with (first | (go_at_call 38; refine (Kind_any _ b 18 hb18).mono ?_; rintro e w3 ⟨rfl, rfl⟩) | (go_at_call 26; refine HCALL.out.mono ?_; rintro e w3 ⟨p, ev, rfl, hpost⟩; refine Hid.out ?_))
                  have hx3 : NX (Nm am) W2 w3 := hpost.nx.mono fun k _ e => by
                    rcases e with e | rfl
                    · exact e
                    · exact ⟨_, HAB.out⟩
                  obtain ⟨hst3, himp⟩ := HST2.out.nest HWN.out (fun b h => (HOK.out b h).1) hx3 hpost.info
                  cases hg : gti tg (exOf U) l n (envT l f.name).fields with
                  | error c2 =>
                    obtain ⟨_, p2, ev2, he, hev⟩ := hpost.err c2 hg
                    obtain ⟨h1, rfl⟩ := tuple_inj he
                    clear he h1
                    have hbad : gti tg (exOf U) l (n + 1) fs = .error c2 := by
                      refine gtiGo_err HFO.out HPRE.out ?_
                      have hsk : ¬ ((!exOf U f.name && !f.emb) || (tg f.tag).toList == [45]) = true := by rw [HSK.out]; decide
                      unfold gtiStep
                      rw [if_neg hsk, if_pos HE.out, hg]
                    have hfin : ∀ p', GtiPost tg (exOf U) l n0 am ok (n + 1) fs y w (.returned (.tuple #[.pointer p', ev])) w3 := fun p' => hst3.bad hbad (hev.mono HST2.out.nx.ext.size)
                    obtain ⟨k, eb, rfl⟩ := hev.form
                    have HFIN := Lib.hid hfin
                    clear hpost hx3 hst3 himp hg hev hbad hfin HCALL
                    refine Lib.hid ?_
                    go_wp2_with fail
                    go_ret2
                    exact HFIN.out none
                  | ok t =>
                    obtain ⟨ti, he, hI⟩ := hpost.res t hg
                    obtain ⟨h1, rfl⟩ := tuple_inj he
                    injection h1 with h1
                    subst h1
                    clear he
                    have hI3 : InfoV w3 (OkR ok w v) ti t := hI.keep ⟨fun b' _ hb' => ⟨himp b' hb', rfl⟩, fun _ _ => rfl⟩
                    have hin := gti_ok HCN.out hg
                    obtain ⟨p, hp0, hpx⟩ := hst3.c0
                    obtain ⟨p', hp0', hpx'⟩ := hI3.c0
                    have hf0 := hst3.f0
                    have hp3 : pf < w3.heap.size := Nat.lt_of_lt_of_le hpf2 hx3.ext.size
                    have hV3 : V.heap.size ≤ w3.heap.size := Nat.le_trans hV2 hx3.ext.size
                    have HG2 := Lib.hid hg
                    have HIN := Lib.hid hin
                    have HST3 := Lib.hid hst3
                    have HI3 := Lib.hid hI3
                    have HPX := Lib.hid hpx
                    have HPX2 := Lib.hid hpx'
                    clear hpost hx3 himp hst3 hg hI hI3 hin hpx hpx' HCALL b0 b1 b2 hb3'
                    refine Lib.hid ?_
                    go_upto_if 87 with fail
                    go_cut [] from 88 to 94 (fun wx => TSt tg (exOf U) l n0 am ok w wx (acc.xn.or t.xn) acc.fs v ∧ InfoV wx (OkR ok w v) ti t ∧ w3.heap.size ≤ wx.heap.size)
                    case first =>
                      cases hxn : acc.xn with
                      | none =>
                        have hp : p = none := by have := HPX.out; rw [hxn] at this; exact this
                        subst hp
                        have HXN := Lib.hid hxn
                        clear hxn
                        go_wp2_with fail
                        go_meet
                        have hx : Ext (fun k => k = w.heap.size ∨ v.ownBlock = some k) w3 (w3.setCell ⟨w.heap.size, 0, none⟩ (.pointer p')) := (Ext.setCell (S := fun k => k = w.heap.size) w3 rfl _).mono fun k _ e => .inl e
                        refine ⟨?_, HI3.out.keep (HST3.out.kp hx fun g e => .inl e), by simp [World.setCell]⟩
                        rw [HXN.out]
                        exact HST3.out.xml HG.out HWN.out HPX2.out
                      | some x0 =>
                        obtain ⟨fp, hp, _, _⟩ : ∃ fp, p = some ⟨fp, 0, none⟩ ∧ OkR ok w v fp ∧ FxAt w3 fp 0 x0 := by have := HPX.out; rw [hxn] at this; exact this
                        subst hp
                        have HXN := Lib.hid hxn
                        clear hxn
                        go_wp2_with fail
                        go_meet
                        refine ⟨?_, HI3.out, Nat.le_refl _⟩
                        have := HST3.out
                        rw [HXN.out] at this ⊢
                        exact this
                    case rest =>
                      obtain ⟨hst4, hI4, hsz4⟩ := hcut
                      obtain ⟨W4, hW4⟩ : ∃ W4, W4 = wc := ⟨_, rfl⟩
                      subst hW4
                      obtain ⟨SA, SC, hi1, hrows⟩ := hI4.c1
                      have htl : t.fs.length ≤ 1000000 := by have := HIN.out.1; omega
                      have HST4 := Lib.hid hst4
                      have HRW := Lib.hid hrows
                      clear hst4 hI4 hrows HST3 HI3 HPX HPX2 hp0 hp0' hf0
                      go_wp2_with fail
                      go_loopg [100] t.fs.length (fun gk s100 wx => ∃ (j : Nat) (L : List Fx) (v' : Value), s100 = .int .i64 j ∧ j ≤ t.fs.length ∧ gk = t.fs.length - j ∧ addAll acc.fs ((t.fs.map fun z => (⟨z.fi, i :: z.idx⟩ : Fx)).take j) = some L ∧ TSt tg (exOf U) l n0 am ok w wx (acc.xn.or t.xn) L v' ∧ RowsV wx (OkR ok w v') SA t.fs ∧ W4.heap.size ≤ wx.heap.size)
                      case atStart => exact ⟨0, acc.fs, v, rfl, Nat.zero_le _, rfl, by simp [addAll], HST4.out, HRW.out, Nat.le_refl _⟩
                      case round =>
                        clear HST4 HRW hi1
                        obtain ⟨j, L, v', rfl, hj, rfl, hadd, hst, hrows, hszr⟩ := hrel
                        obtain ⟨W, hW⟩ : ∃ W, W = wr := ⟨_, rfl⟩
                        subst hW
                        by_cases hlj : j < t.fs.length
                        · --<B
                          obtain ⟨z, hz⟩ : ∃ z, t.fs[j]? = some z := ⟨_, List.getElem?_eq_getElem hlj⟩
                          obtain ⟨g, rfl, hog, hfa⟩ := hrows j z hz
                          obtain ⟨ib, ic, PA, pc, ⟨r0, r1, r2, r3, r4⟩, hq⟩ := hfa.at_
                          obtain ⟨hzp, hzd, hzne⟩ := HIN.out.2 z (List.mem_of_getElem? hz)
                          have hzl : 0 < z.idx.length := List.length_pos_iff.2 hzne
                          have hzl2 : z.idx.length < 1000000 := by omega
                          have hj0 : (0 : Int) ≤ (j : Int) := by omega
                          have hj1 : (j : Int) < (t.fs.length : Int) := by omega
                          obtain ⟨new, hnew⟩ : ∃ new : Fx, new = ⟨z.fi, i :: z.idx⟩ := ⟨_, rfl⟩
                          have hzm : (t.fs.map fun z => (⟨z.fi, i :: z.idx⟩ : Fx))[j]? = some new := by rw [List.getElem?_map, hz, hnew]; rfl
                          have hLl : L.length ≤ 1000000 := by
                            have h1 := (addAll_mem _ _ _ hadd).2
                            have h2 := HIN.out.1
                            simp at h1
                            omega
                          have hLp : ∀ q ∈ L, PathOk l fs q.idx := fun q hq => by
                            rcases (addAll_mem _ _ _ hadd).1 q hq with h1 | h1
                            · exact (HPR.out.path q h1).1
                            · obtain ⟨q', h2, rfl⟩ := List.mem_map.1 (List.mem_of_mem_take h1)
                              exact path_cons HFO.out HE.out.1 HE.out.2 (HIN.out.2 q' h2).1
                          have hNp : PathOk l fs new.idx := by rw [hnew]; exact path_cons HFO.out HE.out.1 HE.out.2 hzp
                          have HLP := Lib.hid hLp
                          have HNP := Lib.hid hNp
                          have HNEW := Lib.hid hnew
                          have HZM := Lib.hid hzm
                          have HADL := Lib.hid hadd
                          have HST := Lib.hid hst
                          have HRW := Lib.hid hrows
                          have HQ := Lib.hid hq
                          have hgl : g < W.heap.size := lt_cell r0
                          have hibc : ∀ k u, (z.idx.map fun (k : Nat) => Value.int .i64 (k : Int))[k]? = some u → W.cell? ⟨ib, k, none⟩ = some u := fun k u e => by
                            obtain ⟨ib', _, _, _, e1, _, h3, _⟩ := hq
                            injection e1 with e1 _
                            injection e1 with e1 _ _
                            injection e1 with e1
                            injection e1 with e1 _ _
                            subst e1
                            rw [List.getElem?_map] at e
                            cases hk : z.idx[k]? with
                            | none => rw [hk] at e; cases e
                            | some q => rw [hk] at e; obtain rfl := Option.some.inj e; exact h3 k q hk
                          have HIB := Lib.hid hibc
                          clear hz hrows hfa hq hzp hzd hzne hnew hzm hLp hNp hadd hst hog hibc
                          go_upto_region 25 with fail
                          have hown0 := own_one W (Blk85 ib z.idx.length ic z.fi.name z.fi.xmlns z.fi.flags PA z.fi.parents.length pc) i
                          have hnews : ∀ k u, (z.idx.map fun (k : Nat) => Value.int .i64 (k : Int))[k]? = some u → ((W.alloc (Blk85 ib z.idx.length ic z.fi.name z.fi.xmlns z.fi.flags PA z.fi.parents.length pc)).alloc (.cells #[.int .i64 (i : Int)] 3)).cell? ((⟨ib, 0, none⟩ : Addr).add k) = some u := fun k u e => by
                            have h1 := HIB.out k u e
                            rw [addr_add0]
                            have hl : ib < W.heap.size := lt_cell h1
                            have hl1 : ib < (W.alloc (Blk85 ib z.idx.length ic z.fi.name z.fi.xmlns z.fi.flags PA z.fi.parents.length pc)).heap.size := by rw [World.size_alloc]; omega
                            exact (World.cell?_of_block ((Below.heap_alloc _ _ ib hl1).trans (Below.heap_alloc W _ ib hl))).trans h1
                          have HOWN0 := Lib.hid hown0
                          have HNEWS := Lib.hid hnews
                          clear hown0 hnews
                          obtain ⟨i0, hi, hz0, hz1, hz2⟩ := info_parts info3
                          go_wp2_with (at_builtin; refine wpList_append_lies _ rfl (.tmp 105) (.tmp 107) 35 rfl W.heap.size 3 i0 _ 1 8 Tryz.underlying35 hi hz0 hz1 hz2 rfl (by decide) (.slice (some ⟨W.heap.size + 1, 0, none⟩) 1 1) 1 [.int .i64 (i : Int)] rfl HOWN0.out ⟨ib, 0, none⟩ z.idx.length ic (z.idx.map fun (k : Nat) => Value.int .i64 (k : Int)) rfl (by simp) HNEWS.out (by simp [Value.oneCell']) hzl (by unfold maxLen; omega) (by omega) (by simp; omega) _ rfl ?_; intro g9 cap9 w9 hown9 hg9 hat hlt9; refine Hid.out ?_)
                          have hrnd : Rnd W w9 g9 cap9 ib ic pc i z PA := Rnd.mk_ hown9 hg9 hat hlt9
                          have s0 : w9.cell? ⟨W.heap.size, 0, none⟩ = some (.slice (some ⟨ib, 0, none⟩) z.idx.length ic) := by simp only [World.cell?, hrnd.b5]; rfl
                          have sf : w9.frozen? ⟨W.heap.size, 0, none⟩ = false := by simp only [World.frozen?, hrnd.b5]; simp
                          have HRND := Lib.hid hrnd
                          clear hown9 hg9 hat hrnd HOWN0 HNEWS
                          refine Lib.hid ?_
                          go_upto_region 26 with fail
                          obtain ⟨W6, hW6⟩ : ∃ W6, W6 = w9.setCell ⟨W.heap.size, 0, none⟩ (.slice (some ⟨g9, 0, none⟩) (1 + z.idx.length) cap9) := ⟨_, rfl⟩
                          obtain ⟨hb6, hq6, n0', n1', n2', n3', n4'⟩ := HRND.out.set_ HQ.out hW6 HNEW.out hzl2
                          have hst6 := HST.out.below hb6
                          have hrw6 : RowsV W6 (OkR ok w v') (some ⟨g, 0, none⟩) t.fs := HRW.out.keep (Kp.below hb6 fun _ _ e => e)
                          obtain ⟨vss, hT6⟩ := hst6.ti
                          have hBW6 : Below B w W6 := hst6.nx.belowB HNB.out hB
                          have hadd : Calls Tryz.prog 45 #[.pointer (some ⟨y, 0, none⟩), .pointer (some ⟨w.heap.size, 0, none⟩), .pointer (some ⟨W.heap.size, 0, none⟩)] W6 (AddPost W6 (w.heap.size + 1) y w.heap.size L v' new) :=
                            add_any HTG.out fs y w.heap.size W.heap.size (w.heap.size + 1) L new v' vss W6 hT6 hLl hst6.gnm HS.out (HF.out.keepX hst6.nx) (HTB.out.keep hBW6) (Nat.le_trans hB hst6.nx.ext.size) (by have := hst6.lt; omega) HLP.out HNP.out (by have := HST.out.lt; omega) (fun e => by have := HST.out.own e; omega)
                              g9 cap9 PA pc (hq6.mono fun b _ hb => hst6.notOwn hb) n0' n1' n2' n3' n4'
                          have hsz6 : W.heap.size ≤ W6.heap.size := hb6.size
                          have hw6 : w.heap.size < W6.heap.size := hst6.lt
                          have hxn := HZM.out
                          rw [← hW6]
                          have HST6 := Lib.hid hst6
                          have HRW6 := Lib.hid hrw6
                          clear hW6 hb6 hq6 n0' n1' n2' n3' n4' hst6 hrw6 hT6 hBW6 hxn s0 sf r0 r1 r2 r3 r4 hj0 hj1 HRND
                          cases hax : addFx L new with
                          | none =>
                            have hcall := hadd.mono fun e w' h => (show (∃ eb, e = .returned (.iface 90 (.pointer (some ⟨eb, 0, none⟩))) ∧ W6.heap.size ≤ eb ∧ TagE w' eb y) ∧ AddPost W6 (w.heap.size + 1) y w.heap.size L v' new e w' from ⟨h.err hax, h⟩)
                            have hbad : gti tg (exOf U) l (n + 1) fs = .error true := by
                              refine gtiGo_err HFO.out HPRE.out ?_
                              have hsk : ¬ ((!exOf U f.name && !f.emb) || (tg f.tag).toList == [45]) = true := by rw [HSK.out]; decide
                              unfold gtiStep
                              rw [if_neg hsk, if_pos HE.out, HG2.out]
                              simp only [addAll_err HZM.out HADL.out hax]
                            have HBAD := Lib.hid hbad
                            have HCALL := Lib.hid hcall
                            clear hadd hcall hbad hax
                            go_wp2_with (go_at_call 45; refine HCALL.out.mono ?_; rintro e w7 ⟨⟨eb, rfl, hge, hte⟩, hpost⟩; refine Hid.out ?_)
                            have hfin : GtiPost tg (exOf U) l n0 am ok (n + 1) fs y w (.returned (.tuple #[.pointer none, .iface 90 (.pointer (some ⟨eb, 0, none⟩))])) w7 :=
                              HST6.out.bad2 HWN.out hpost.ext HBAD.out ⟨eb, by omega, rfl, y, T, hte, hwf, hsz, HT.out.keepX (HST6.out.late hpost.ext)⟩
                            have HFIN := Lib.hid hfin
                            clear hge hte hpost hfin
                            refine Lib.hid ?_
                            go_wp2_with fail
                            go_ret2
                            exact HFIN.out
                          | some L2 =>
                            have hcall := hadd.mono fun e w' h => (show e = .returned .nilIface ∧ AddPost W6 (w.heap.size + 1) y w.heap.size L v' new e w' from ⟨(h.ok L2 hax).1, h⟩)
                            have HCALL := Lib.hid hcall
                            have HAX := Lib.hid hax
                            clear hadd hcall hax
                            go_wp2_with (go_at_call 45; refine HCALL.out.mono ?_; rintro e w7 ⟨rfl, hpost⟩; refine Hid.out ?_)
                            obtain ⟨_, v2, hst7, hk7⟩ := HST6.out.add HG.out HWN.out hpost HAX.out
                            have hrw7 := HRW6.out.keep hk7
                            have hs7 : W6.heap.size ≤ w7.heap.size := hpost.ext.size
                            have HST7 := Lib.hid hst7
                            have HRW7 := Lib.hid hrw7
                            clear hpost hst7 hk7 hrw7
                            refine Lib.hid ?_
                            go_wp2_with fail
                            go_roundg (t.fs.length - (j + 1))
                            case measure => omega
                            case rel => exact ⟨j + 1, L2, v2, by go_num, by omega, rfl, (addAll_snoc HZM.out HADL.out).trans HAX.out, HST7.out, HRW7.out, by omega⟩
                        · have hje : j = t.fs.length := by omega
                          subst hje
                          rw [List.take_of_length_le (by simp)] at hadd
                          have hstep : gtiStep tg (exOf U) l (gti tg (exOf U) l n) i f acc = .ok ⟨acc.xn.or t.xn, L⟩ := by
                            have hsk : ¬ ((!exOf U f.name && !f.emb) || (tg f.tag).toList == [45]) = true := by rw [HSK.out]; decide
                            unfold gtiStep
                            rw [if_neg hsk, if_pos HE.out, HG2.out]
                            simp only [hadd]
                          have HSTEP := Lib.hid hstep
                          have HST5 := Lib.hid hst
                          clear hadd hst hrows hstep
                          go_wp2_with fail
                          go_roundg (fs.length - (i + 1))
                          case measure => omega
                          case rel => exact ⟨i + 1, _, v', by go_num, by omega, rfl, gtiGo_snoc HFO.out HPRE.out HSTEP.out, HST5.out⟩
              · obtain ⟨em, hem⟩ : ∃ em, f.emb = em := ⟨_, rfl⟩
                have hFCx : FC W2 pf 0 f.name f.tag x f.emb := ⟨b0, b1, b2, b3⟩
                rw [hem] at b3
                have HEM := Lib.hid hem
                have HNE := Lib.hid hE
                have HFCX := Lib.hid hFCx
                clear hem hE hFCx
                go_upto_if 64 with fail
                go_cut [10] from 65 to 74 (fun _ wx => W2 = wx)
                case first =>
                  cases em with
                  | false =>
                    go_wp2_with fail
                    go_meet
                    exact rfl
                  | true =>
                    have hk13 : (envT l f.name).kind ≠ 13 := fun h => HNE.out ⟨HEM.out, h⟩
                    obtain ⟨b, hxb, kb, hkb, hk17, hk18⟩ : ∃ b, (x = b ∨ (W2.cell? ⟨x, 0, none⟩ = some (.int .u8 17) ∧ W2.cell? ⟨x, 2, none⟩ = some (.pointer (some ⟨b, 0, none⟩)))) ∧ ∃ kb : Int, W2.cell? ⟨b, 0, none⟩ = some (.int .u8 kb) ∧ kb ≠ 17 ∧ kb ≠ 18 := by
                      rcases emb_block HST2.out.gnm HS.out HEM.out HEMB.out HRX2.out with ⟨b, h1, h2, _⟩ | ⟨b, h1, h2, h3⟩
                      · exact ⟨b, .inl h2, named_other HST2.out.gnm HS.out h1 hk13⟩
                      · exact ⟨b, .inr ⟨h2, h3⟩, named_other HST2.out.gnm HS.out h1 hk13⟩
                    have hq17 : (kb == 17) = false := by simpa using hk17
                    have hq18 : (kb == 18) = false := by simpa using hk18
                    rcases hxb with rfl | ⟨hx0, hx2⟩
                    · go_wp2_with (go_at_call 38; refine (Kind_any _ x kb hkb).mono ?_; rintro e w3 ⟨rfl, rfl⟩)
                      go_meet
                      exact rfl
                    · go_wp2_with (first
                        | (go_at_call 38; (with_reducible refine (Kind_any _ x 17 hx0).mono ?_); rintro e w3 ⟨rfl, rfl⟩)
                        | (go_at_call 44; refine (Elem_any _ x _ hx2).mono ?_; rintro e w3 ⟨rfl, rfl⟩)
                        | (go_at_call 38; (with_reducible refine (Kind_any _ b kb hkb).mono ?_); rintro e w3 ⟨rfl, rfl⟩))
                      go_meet
                      exact rfl
                case rest =>
                  obtain rfl := hcut
                  have hBW : Below B w W2 := HST2.out.nx.belowB HNB.out hB
                  have hB2 := Nat.le_trans hB HST2.out.nx.ext.size
                  have htsz : f.t.sz ≤ 2000 := by omega
                  have hsfi : Calls Tryz.prog 46 #[.pointer (some ⟨y, 0, none⟩), .pointer (some ⟨pf, 0, none⟩), .int .i64 i] W2 (SfiPost W2 (sfi tg (lkOf tg (bare f.t l)) f.name f.tag) i) :=
                    sfi_any HTG.out W2 y pf x f.name f.tag f.emb i _ (HTB.out.keep hBW) hB2 HFCX.out (by omega) (by omega) (StrC_of HST2.out.gnm (HTB.out.keep hBW) hB2 hwf hsz (HT.out.keepX HST2.out.nx)) fun _ =>
                      ⟨StrC_of HST2.out.gnm (HTB.out.keep hBW) hB2 hfwf htsz HRX2.out, LkPost.lkc fun w' hb => lookup_any HTG.out f.t x w' (HST2.out.gnm.keep (Ext.of_below hb)) HS.out ((HTB.out.keep hBW).keep (hb.mono hB2)) (Nat.le_trans hB2 hb.size) hfwf htsz (HRX2.out.keepX (NX.of_below hb))⟩
                  have hsk : ¬ ((!exOf U f.name && !f.emb) || (tg f.tag).toList == [45]) = true := by rw [HSK.out]; decide
                  cases hsf : sfi tg (lkOf tg (bare f.t l)) f.name f.tag with
                  | none =>
                    have hcall := hsfi.mono fun e w' h => (show Below W2.heap.size W2 w' ∧ ∃ eb s, e = .returned (.tuple #[.pointer none, .iface 154 (.pointer (some ⟨eb, 0, none⟩))]) ∧ W2.heap.size ≤ eb ∧ w'.cell? ⟨eb, 0, none⟩ = some (.string s) from ⟨h.1, h.2.2 hsf⟩)
                    have hbad : gti tg (exOf U) l (n + 1) fs = .error false := by
                      refine gtiGo_err HFO.out HPRE.out ?_
                      unfold gtiStep
                      rw [if_neg hsk, if_neg HNE.out, hsf]
                    have HBAD := Lib.hid hbad
                    have HCALL := Lib.hid hcall
                    clear hsfi hcall hbad hsf hsk hBW b0 b1 b2 b3
                    go_wp2_with (go_at_call 46; refine HCALL.out.mono ?_; rintro e w3 ⟨hb3, eb, s, rfl, hge, hes⟩; refine Hid.out ?_)
                    have hst3 := HST2.out.below hb3
                    have hlt3 := HST2.out.lt
                    have hfin : GtiPost tg (exOf U) l n0 am ok (n + 1) fs y w (.returned (.tuple #[.pointer none, .iface 154 (.pointer (some ⟨eb, 0, none⟩))])) w3 := hst3.bad HBAD.out ⟨eb, by omega, rfl, s, hes⟩
                    have HFIN := Lib.hid hfin
                    clear hb3 hge hes hst3 hfin
                    refine Lib.hid ?_
                    go_wp2_with fail
                    go_ret2
                    exact HFIN.out
                  | some fi =>
                    have hcall := hsfi.mono fun e w' h => (show Below W2.heap.size W2 w' ∧ ∃ fp, e = .returned (.tuple #[.pointer (some ⟨fp, 0, none⟩), .nilIface]) ∧ W2.heap.size ≤ fp ∧ FiV w' fp fi i from ⟨h.1, h.2.1 fi hsf⟩)
                    have HCALL := Lib.hid hcall
                    have HSF := Lib.hid hsf
                    have hpar := sfi_parents hsf (by have := HTG.out.1 f.tag; omega)
                    clear hsfi hcall hsf hBW b1 b2 b3
                    obtain ⟨qn, hqn⟩ : ∃ q, (f.name.toList == [88, 77, 76, 78, 97, 109, 101]) = q := ⟨_, rfl⟩
                    go_wp2_with (go_at_call 46; refine HCALL.out.mono ?_; rintro e w3 ⟨hb3, fp, rfl, hge, hfi⟩; refine Hid.out ?_)
                    have hst3 := HST2.out.below hb3
                    have hlt2 := HST2.out.lt
                    have b03 := (World.cell?_of_block (hb3.block pf hpf2)).trans b0
                    obtain ⟨p, hp0, _⟩ := hst3.c0
                    have hf0 := hst3.f0
                    have HST3 := Lib.hid hst3
                    have HFI := Lib.hid hfi
                    have HSKN := Lib.hid hsk
                    have hfpo : OkR ok w v fp := ⟨.inr (by omega), fun e => by have := HST2.out.own e; omega⟩
                    clear hb3 hst3 hfi hsk b0
                    refine Lib.hid ?_
                    cases qn with
                    | true =>
                      have hstep : gtiStep tg (exOf U) l (gti tg (exOf U) l n) i f acc = .ok ⟨some ⟨fi, [i]⟩, acc.fs⟩ := by
                        unfold gtiStep
                        rw [if_neg HSKN.out, if_neg HNE.out, HSF.out]
                        simp only
                        rw [if_pos hqn]
                      have HSTEP := Lib.hid hstep
                      clear hstep
                      go_wp2_with fail
                      go_roundg (fs.length - (i + 1))
                      case measure => omega
                      case rel => exact ⟨i + 1, _, v, by go_num, by omega, rfl, gtiGo_snoc HFO.out HPRE.out HSTEP.out, HST3.out.xml HG.out HWN.out ⟨fp, rfl, hfpo, HFI.out.at_ hpar⟩⟩
                    | false =>
                      have hqn' : ¬ (f.name.toList == xmlNameL) = true := by rw [hqn]; decide
                      obtain ⟨cs, hcs1, hcs2, hcs3⟩ := HC.out
                      have hpre := gti_pre (tg := tg) (ex := exOf U) hcs1 hcs2 hcs3 i acc hi HPRE.out
                      have hLl : acc.fs.length ≤ 1000000 := by
                        have h1 := hpre.len
                        have h3 := take_sum_le cs i
                        omega
                      obtain ⟨new, hnew⟩ : ∃ new : Fx, new = ⟨fi, [i]⟩ := ⟨_, rfl⟩
                      obtain ⟨ib, ic, PA, pc, ⟨n0', n1', n2', n3', n4'⟩, hq⟩ := HFI.out.fx hpar
                      obtain ⟨vss, hT3⟩ := HST3.out.ti
                      have hBW3 : Below B w w3 := HST3.out.nx.belowB HNB.out hB
                      have hadd : Calls Tryz.prog 45 #[.pointer (some ⟨y, 0, none⟩), .pointer (some ⟨w.heap.size, 0, none⟩), .pointer (some ⟨fp, 0, none⟩)] w3 (AddPost w3 (w.heap.size + 1) y w.heap.size acc.fs v new) := by
                        subst hnew
                        exact add_any HTG.out fs y w.heap.size fp (w.heap.size + 1) acc.fs ⟨fi, [i]⟩ v vss w3 hT3 hLl HST3.out.gnm HS.out (HF.out.keepX HST3.out.nx) (HTB.out.keep hBW3) (Nat.le_trans hB HST3.out.nx.ext.size) (by have := HST3.out.lt; omega) (fun q hq => (hpre.path q hq).1) (path_one hlt) (by omega) (fun e => by have := HST2.out.own e; omega)
                          ib ic PA pc (hq.mono fun b _ hb => HST3.out.notOwn hb) n0' n1' n2' n3' n4'
                      have HNEW := Lib.hid hnew
                      have hw3 : w.heap.size < w3.heap.size := HST3.out.lt
                      clear hcs1 hcs2 hcs3 hpre n0' n1' n2' n3' n4' hq hT3 hBW3 hnew hp0 hf0
                      cases hax : addFx acc.fs new with
                      | none =>
                        have hcall := hadd.mono fun e w' h => (show (∃ eb, e = .returned (.iface 90 (.pointer (some ⟨eb, 0, none⟩))) ∧ w3.heap.size ≤ eb ∧ TagE w' eb y) ∧ AddPost w3 (w.heap.size + 1) y w.heap.size acc.fs v new e w' from ⟨h.err hax, h⟩)
                        have hbad : gti tg (exOf U) l (n + 1) fs = .error true := by
                          refine gtiGo_err HFO.out HPRE.out ?_
                          rw [HNEW.out] at hax
                          unfold gtiStep
                          rw [if_neg HSKN.out, if_neg HNE.out, HSF.out]
                          simp only
                          rw [if_neg hqn', hax]
                        have HBAD := Lib.hid hbad
                        have HCALL := Lib.hid hcall
                        clear hadd hcall hbad hax hqn'
                        go_wp2_with (go_at_call 45; refine HCALL.out.mono ?_; rintro e w7 ⟨⟨eb, rfl, hge, hte⟩, hpost⟩; refine Hid.out ?_)
                        have hfin : GtiPost tg (exOf U) l n0 am ok (n + 1) fs y w (.returned (.tuple #[.pointer none, .iface 90 (.pointer (some ⟨eb, 0, none⟩))])) w7 :=
                          HST3.out.bad2 HWN.out hpost.ext HBAD.out ⟨eb, by omega, rfl, y, T, hte, hwf, hsz, HT.out.keepX (HST3.out.late hpost.ext)⟩
                        have HFIN := Lib.hid hfin
                        clear hge hte hpost hfin
                        refine Lib.hid ?_
                        go_wp2_with fail
                        go_ret2
                        exact HFIN.out
                      | some L2 =>
                        have hcall := hadd.mono fun e w' h => (show e = .returned .nilIface ∧ AddPost w3 (w.heap.size + 1) y w.heap.size acc.fs v new e w' from ⟨(h.ok L2 hax).1, h⟩)
                        have hstep : gtiStep tg (exOf U) l (gti tg (exOf U) l n) i f acc = .ok ⟨acc.xn, L2⟩ := by
                          have hax2 := hax
                          rw [HNEW.out] at hax2
                          unfold gtiStep
                          rw [if_neg HSKN.out, if_neg HNE.out, HSF.out]
                          simp only
                          rw [if_neg hqn', hax2]
                        have HSTEP := Lib.hid hstep
                        have HCALL := Lib.hid hcall
                        have HAX := Lib.hid hax
                        clear hadd hcall hax hqn' hstep
                        go_wp2_with (go_at_call 45; refine HCALL.out.mono ?_; rintro e w7 ⟨rfl, hpost⟩; refine Hid.out ?_)
                        obtain ⟨_, v2, hst7, hk7⟩ := HST3.out.add HG.out HWN.out hpost HAX.out
                        have HST7 := Lib.hid hst7
                        clear hpost hst7 hk7
                        refine Lib.hid ?_
                        go_wp2_with fail
                        go_roundg (fs.length - (i + 1))
                        case measure => omega
                        case rel => exact ⟨i + 1, _, v2, by go_num, by omega, rfl, gtiGo_snoc HFO.out HPRE.out HSTEP.out, HST7.out⟩
        · have hie : i = fs.length := by omega
          have hgt : gti tg (exOf U) l (n + 1) fs = .ok acc := by
            have h1 := HPRE.out
            rw [hie, List.take_length] at h1
            exact h1
          have hst := HST.out
          have hfr : V.frozen? ⟨y, 7, none⟩ = false := (hst.nx.frozenY hyl).trans hf7
          obtain ⟨u7, hu7⟩ : ∃ u, V.cell? ⟨y, 7, none⟩ = some u := by
            by_cases hy : Nm am y
            · obtain ⟨s, e⟩ := hy
              rcases (hst.info s y e (HN.out s e).2).2 with h1 | ⟨_, _, h1, _⟩ <;> exact ⟨_, h1⟩
            · exact ⟨_, (World.cell?_of_block (hst.nx.ext.block y hyl hy)).trans h7⟩
          have HGT := Lib.hid hgt
          clear hgt hst hie
          go_wp2_with fail
          go_ret2
          exact HST.out.done HOK.out ⟨_, hy0⟩ HGT.out HD.out (fun s e => (HN.out s e).1) ⟨_, hu7⟩ hfr
    · have hgt : gti tg (exOf U) l (n + 1) fs = .ok t := hR.fuel hdeep
      have hkk : ∀ w', (∀ b : Nat, w'.heap[b]? = w.heap[b]?) → Kp ok (fun b => ok b ∨ w.heap.size ≤ b) w w' := fun w' h => ⟨fun b _ ho => ⟨.inl ho, h b⟩, fun b _ => h b⟩
      have HG := Lib.hid hgt
      have HI := Lib.hid hI
      have HIA := Lib.hid hIA
      have HK := Lib.hid hkk
      clear hgt hI hIA hkk hR hc hG hTb hU hF hT hIB hN hok hTg hs ih hdeep
      clear hy6
      have ha := assert76
      go_enter Tryz.func26, Tryz.ntmps26
      go_wp2_with fail
      go_ret2
      have hk := HK.out w fun _ => rfl
      exact ⟨NX.refl _ _, HIA.out.keep hk fun _ _ _ => rfl, fun t' ht' => by
        rw [HG.out] at ht'
        injection ht' with ht'
        subst ht'
        exact ⟨ti, rfl, HI.out.keep hk⟩, fun c' hc' => by rw [HG.out] at hc'; cases hc'⟩
end Go.Proofs.YtnmgocbmofbppaaGreatDoor
