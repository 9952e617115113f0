/- embeds, typesLeft. Bare. UnquoteChar. UnquoteChar: the other cases. UnquoteChar: hexadecimal and octal. -/
import Derived.Test.YtnmgocbmofbppaaGreatDoorA12
import Derived.Test.YtnmgocbmofbppaaGreatDoorA08
import Derived.Test.YtnmgocbmofbppaaGreatDoorA04
import Derived.Test.YtnmgocbmofbppaaGreatDoorA10
import Derived.KernelRfl
import Derived.Outline
import Derived.BigGuardPart
import Derived.Deep.DeepMust
import Derived.Deep.LoopGhost
import Derived.Deep.DeepCutAuto
import Derived.Deep.CutBlock
import Derived.Deep.QuietTactic
import Derived.BigQuiet
import Derived.Lib.Hide
import Derived.WalkSpells
import Derived.Deep.Light
import Derived.Deep.RegionWith
import Derived.WalkLawsBesides
import Derived.StillTailTactics
import Derived.Deep.RegionHeldLaw
import Derived.Deep.RegionHeld3
import Derived.WalkMore
import Derived.Lib.QuoteLoop
import Derived.Lib.TrimU
import Derived.Lib.RuneBytes

set_option linter.unusedVariables false
set_option linter.unusedSimpArgs false

namespace Go.Proofs.YtnmgocbmofbppaaGreatDoor
open Go.RowKit

set_option maxHeartbeats 1600000 in
set_option maxRecDepth 100000 in
theorem embeds_any (fs : List Fl) (A : Option Addr) (c : Nat) (w : World) (ok : Nat → Prop) (hlen : fs.length ≤ 1000000) (hfs : FlsV w ok fs A 0) :
    Calls Tryz.prog 12 #[.slice A fs.length c] w fun e w' => e = .returned (.bool (fs.any Fl.emb)) ∧ w = w' := by
  obtain ⟨q, hq⟩ : ∃ q, fs.any Fl.emb = q := ⟨_, rfl⟩
  rw [hq]
  go_enter Tryz.func12, Tryz.ntmps12
  go_wp2_with fail
  go_loopw [3] (fun s3 wr => ∃ j : Nat, s3 = .int .i64 j ∧ j ≤ fs.length ∧ w = wr ∧ (fs.drop j).any Fl.emb = q) (fun s3 _ => fs.length - (intOf s3).toNat)
  case atStart => exact ⟨0, rfl, Nat.zero_le _, rfl, hq⟩
  case round =>
    obtain ⟨j, rfl, hj, rfl, hany⟩ := hrel
    clear hq
    by_cases hlt : j < fs.length
    · obtain ⟨f, hf⟩ : ∃ f, fs[j]? = some f := ⟨_, List.getElem?_eq_getElem hlt⟩
      obtain ⟨b, off, A', ca, D', cd, rfl, _, _, _, hcell⟩ := FlsV.at_ hfs hf
      have ⟨e0, e1, e2, e3, e4, e5, e6, e7⟩ := hcell
      have hdr : fs.drop j = f :: fs.drop (j + 1) := by
        rw [List.drop_eq_getElem_cons hlt]
        congr 1
        rw [List.getElem?_eq_getElem hlt] at hf
        exact Option.some.inj hf
      rw [hdr, List.any_cons] at hany
      clear hcell hdr hf
      cases he : f.emb with
      | true =>
        rw [he] at e2 hany
        obtain rfl : true = q := by simpa using hany
        go_wp2_with fail
        go_ret
        exact ⟨rfl, rfl⟩
      | false =>
        rw [he] at e2 hany
        have ha : (fs.drop (j + 1)).any Fl.emb = q := by simpa using hany
        have HA := Lib.hid ha
        clear hany ha
        go_wp2_with fail
        go_roundw
        case rel => exact ⟨j + 1, by go_num, by omega, trivial, HA.out⟩
        case measure => simp [intOf]; omega
    · have hdr : fs.drop j = [] := List.drop_eq_nil_of_le (by omega)
      rw [hdr] at hany
      obtain rfl : false = q := by simpa using hany
      go_wp2_with fail
      go_ret
      exact ⟨rfl, rfl⟩

set_option maxHeartbeats 1600000 in
set_option maxRecDepth 100000 in
theorem typesLeft_any (l : AL Ty) (A : Option Addr) (c : Nat) (left : Int) (w : World) (hlen : l.length ≤ 1000000) (h0 : -140737488351232 ≤ left) (h1 : left ≤ 1500) (hl : NdV w (· < w.heap.size) l A 0) :
    Calls Tryz.prog 5 #[.slice A l.length c, .int .i64 left] w fun e w' => ∃ r, e = .returned (.int .i64 r) ∧ (0 ≤ r → NdSz l ∧ (∀ p ∈ l, NdKind p.2.kind) ∧ 0 ≤ left) ∧ Below w.heap.size w w' := by
  go_enter Tryz.func5, Tryz.ntmps5
  go_wp2_with fail
  go_loopw [5, 1] (fun s5 s1 wr => ∃ (j : Nat) (r : Int), s5 = .int .i64 j ∧ s1 = .int .i64 r ∧ j ≤ l.length ∧ -140737488351232 ≤ r ∧ r ≤ 1500 ∧ (0 ≤ r → 0 ≤ left ∧ ∀ p ∈ l.take j, (p.2.wf ∧ p.2.sz ≤ 2000) ∧ NdKind p.2.kind) ∧ Below w.heap.size w wr) (fun s5 _ _ => l.length - (intOf s5).toNat)
  case atStart => exact ⟨0, left, rfl, rfl, Nat.zero_le _, h0, h1, fun h => ⟨h, by simp⟩, Below.refl _ _⟩
  case round =>
    obtain ⟨j, r, rfl, rfl, hj, hr0, hr1, hr, hb⟩ := hrel
    by_cases hlt : j < l.length
    · by_cases hneg : r < 0
      · have hge : ¬ (0 ≤ r) := by omega
        go_wp2_with fail
        go_ret
        exact ⟨r, rfl, fun h => by omega, hb⟩
      · have hge : 0 ≤ r := by omega
        obtain ⟨p, hp⟩ : ∃ p, l[j]? = some p := ⟨_, List.getElem?_eq_getElem hlt⟩
        obtain ⟨b, off, A', ca, D', cd, rfl, ha, hpz, hty, hcell⟩ := NdV.at_ hl hp
        have hpz' : p.1.size ≤ 140737488351232 := hpz
        have hty' : TyV wr (· < wr.heap.size) p.2 _ := TyV.keep (fun i hi => ⟨by have := hb.size; omega, hb.block i hi⟩) _ _ hty
        have ⟨e0, e1, e2, e3, e4, e5⟩ := hcell.keep (hb.block b ha)
        have g0 : wr.drew.cell? ⟨b, off + j * 6, none⟩ = some (.string p.1) := e0
        have g1 : wr.drew.cell? ⟨b, off + j * 6 + 1, none⟩ = some (.int .i64 p.2.kind) := e1
        have g2 : wr.drew.cell? ⟨b, off + j * 6 + 2, none⟩ = some (.int .i64 p.2.n) := e2
        have g3 : wr.drew.cell? ⟨b, off + j * 6 + 3, none⟩ = some (.string p.2.s) := e3
        have g4 : wr.drew.cell? ⟨b, off + j * 6 + 4, none⟩ = some (.slice A' p.2.of.length ca) := e4
        have g5 : wr.drew.cell? ⟨b, off + j * 6 + 5, none⟩ = some (.slice D' p.2.fields.length cd) := e5
        obtain ⟨h00, hprev⟩ := hr hge
        have HTY := Lib.hid (hty'.drew)
        have HB := Lib.hid hb
        have HP := Lib.hid hprev
        have hbl : b < w.heap.size := ha
        have HCELL := Lib.hid hcell
        clear hr hprev hty hty' hcell hb
        go_upto_region 4 with fail
        go_still_tail 13, (by kernel_rfl)
        go_upto_region 5 with (go_at_call 6; refine (typeLeft_any _ p.2 _ (r - p.1.size) wr.drew (Nat.le_refl _) HTY.out (by omega) (by omega)).mono ?_; rintro e w2 ⟨r2, rfl, hr2, hr3, hb2⟩; refine Hid.out ?_)
        refine Lib.hid ?_
        have hb3 : Below w.heap.size w w2 := HB.out.trans ⟨hb2.os, hb2.tape, hb2.output, hb2.size, fun k hk => hb2.block k (Nat.lt_of_lt_of_le hk HB.out.size)⟩
        have e1 : w2.cell? ⟨b, off + j * 6 + 1, none⟩ = some (.int .i64 p.2.kind) := (World.cell?_of_block (hb3.block b hbl)).trans HCELL.out.2.1
        have HB3 := Lib.hid hb3
        have HR3 := Lib.hid hr3
        obtain ⟨q, hq⟩ : ∃ q, p.2.kind = q := ⟨_, rfl⟩
        rw [hq] at e1
        clear hb2 hb3 hr3 g0 g1 g2 g3 g4 g5 e0 e2 e3 e4 e5
        by_cases hk : NdKind q
        · have HK := Lib.hid hk
          obtain ⟨k1, k2, k3, k4, k5, k6, k7⟩ := hk
          go_wp2_with fail
          go_roundw
          case rel =>
            refine ⟨j + 1, r2, by go_num, rfl, by omega, by omega, by omega, fun h => ⟨h00, fun p' hp' => ?_⟩, HB3.out⟩
            rw [List.take_add_one, hp] at hp'
            rcases List.mem_append.1 hp' with hp' | hp'
            · exact HP.out p' hp'
            · simp at hp'
              subst hp'
              have := HR3.out h
              exact ⟨⟨this.1, by omega⟩, by rw [hq]; exact HK.out⟩
          case measure => simp [intOf]; omega
        · have h7 : q = 12 ∨ q = 6 ∨ q = 7 ∨ q = 8 ∨ q = 11 ∨ q = 15 ∨ q = 14 := by unfold NdKind at hk; omega
          clear hk
          rcases h7 with rfl | rfl | rfl | rfl | rfl | rfl | rfl <;> (go_wp2_with fail; go_ret; exact ⟨-1, rfl, fun h => by omega, HB3.out⟩)
    · obtain rfl : j = l.length := by omega
      rw [List.take_length] at hr
      go_wp2_with fail
      go_ret
      exact ⟨r, rfl, fun h => ⟨fun p hp => ((hr h).2 p hp).1, fun p hp => ((hr h).2 p hp).2, (hr h).1⟩, hb⟩
/-- What a name of the list stands for, from j on. -/
theorem envT_drop {l : AL Ty} {j : Nat} {p : ByteArray × Ty} {s : ByteArray} (hp : l[j]? = some p) : AL.get (l.drop j) s = if s.toList == p.1.toList then some p.2 else AL.get (l.drop (j + 1)) s := by
  have hlt : j < l.length := (List.getElem?_eq_some_iff.1 hp).1
  have hdr : l.drop j = p :: l.drop (j + 1) := by
    rw [List.drop_eq_getElem_cons hlt]
    congr 1
    rw [List.getElem?_eq_getElem hlt] at hp
    exact Option.some.inj hp
  rw [hdr]
  obtain ⟨k, v⟩ := p
  rfl
end Go.Proofs.YtnmgocbmofbppaaGreatDoor
namespace Go.Proofs.YtnmgocbmofbppaaGreatDoor
open Go.RowKit

/-- Five cells in a block. -/
abbrev Obj5 (a0 a1 a2 a3 a4 : Value) : Obj := .cells #[a0, a1, a2, a3, a4] 26
theorem copied5 {w : World} {x : Nat} {o0 o1 o2 o3 o4 a0 a1 a2 a3 a4 : Value} {t : TypeId} (h : w.heap[x]? = some (.cells #[o0, o1, o2, o3, o4] t)) :
    (((((w.setCell ⟨x, 0, none⟩ a0).setCell ⟨x, 1, none⟩ a1).setCell ⟨x, 2, none⟩ a2).setCell ⟨x, 3, none⟩ a3).setCell ⟨x, 4, none⟩ a4).heap[x]? = some (.cells #[a0, a1, a2, a3, a4] t) ∧
    ∀ k, k ≠ x → (((((w.setCell ⟨x, 0, none⟩ a0).setCell ⟨x, 1, none⟩ a1).setCell ⟨x, 2, none⟩ a2).setCell ⟨x, 3, none⟩ a3).setCell ⟨x, 4, none⟩ a4).heap[k]? = w.heap[k]? := by
  refine ⟨?_, fun k hk => ?_⟩
  · refine (heap_set_here (heap_set_here (heap_set_here (heap_set_here (heap_set_here h))))).trans ?_
    simp
  · exact (Below.heap_setCell _ _ _ k hk).trans ((Below.heap_setCell _ _ _ k hk).trans ((Below.heap_setCell _ _ _ k hk).trans ((Below.heap_setCell _ _ _ k hk).trans (Below.heap_setCell _ _ _ k hk))))
theorem beq_comm' (a b : List UInt8) : (a == b) = (b == a) := by
  by_cases h : a = b
  · subst h; rfl
  · rw [beq_eq_false_iff_ne.2 h, beq_eq_false_iff_ne.2 (fun e => h e.symm)]
/-- The two boxes of Bare. -/
structure BSt (w wr : World) (a0 a1 a2 a3 a4 : Value) : Prop where
  below : Below w.heap.size w wr
  b3 : wr.heap[w.heap.size]? = some (Obj5 a0 a1 a2 a3 a4)
  b4 : wr.heap[w.heap.size + 1]? = some (Obj5 (.int .i64 0) (.int .i64 0) (.string ⟨#[]⟩) (.slice none 0 0) (.slice none 0 0))
theorem BSt.start (w : World) (a0 a1 a2 a3 a4 : Value) : BSt w ((w.alloc (Obj5 a0 a1 a2 a3 a4)).alloc (Obj5 (.int .i64 0) (.int .i64 0) (.string ⟨#[]⟩) (.slice none 0 0) (.slice none 0 0))) a0 a1 a2 a3 a4 := by
  have s1 : (w.alloc (Obj5 a0 a1 a2 a3 a4)).heap.size = w.heap.size + 1 := by simp
  refine ⟨((Below.refl _ _).alloc (Nat.le_refl _) _).alloc (by omega) _, ?_, ?_⟩
  · rw [Below.heap_alloc _ _ _ (by omega)]
    exact heap_alloc_new w _
  · have := heap_alloc_new (w.alloc (Obj5 a0 a1 a2 a3 a4)) (Obj5 (.int .i64 0) (.int .i64 0) (.string ⟨#[]⟩) (.slice none 0 0) (.slice none 0 0))
    rw [s1] at this
    exact this
theorem obj5_cells {w : World} {x : Nat} {a0 a1 a2 a3 a4 : Value} (h : w.heap[x]? = some (Obj5 a0 a1 a2 a3 a4)) : (w.cell? ⟨x, 0, none⟩ = some a0 ∧ w.cell? ⟨x, 1, none⟩ = some a1 ∧ w.cell? ⟨x, 2, none⟩ = some a2 ∧ w.cell? ⟨x, 3, none⟩ = some a3 ∧ w.cell? ⟨x, 4, none⟩ = some a4) ∧
    (w.frozen? ⟨x, 0, none⟩ = false ∧ w.frozen? ⟨x, 1, none⟩ = false ∧ w.frozen? ⟨x, 2, none⟩ = false ∧ w.frozen? ⟨x, 3, none⟩ = false ∧ w.frozen? ⟨x, 4, none⟩ = false) := by
  refine ⟨⟨?_, ?_, ?_, ?_, ?_⟩, ?_, ?_, ?_, ?_, ?_⟩
  all_goals first
    | (simp only [World.cell?, h]; rfl)
    | (simp only [World.frozen?, h]; simp)
theorem obj5_lt {w : World} {x : Nat} {o : Obj} (h : w.heap[x]? = some o) : x < w.heap.size := by
  rcases Nat.lt_or_ge x w.heap.size with h1 | h1
  · exact h1
  · rw [Array.getElem?_eq_none h1] at h; cases h
theorem BSt.alloc {w wr : World} {a0 a1 a2 a3 a4 : Value} (h : BSt w wr a0 a1 a2 a3 a4) (o : Obj) : BSt w (wr.alloc o) a0 a1 a2 a3 a4 :=
  ⟨h.below.alloc h.below.size o, by rw [Below.heap_alloc wr o _ (obj5_lt h.b3)]; exact h.b3, by rw [Below.heap_alloc wr o _ (obj5_lt h.b4)]; exact h.b4⟩
/-- A type's cells. -/
def cellsT (k n : Int) (s : ByteArray) (A : Option Addr) (la ca : Nat) (D : Option Addr) (lb cb : Nat) (w wr : World) : Prop := BSt w wr (.int .i64 k) (.int .i64 n) (.string s) (.slice A la ca) (.slice D lb cb)

set_option maxHeartbeats 3200000 in
set_option maxRecDepth 100000 in
theorem Bare_any (l : AL Ty) (A : Option Addr) (c : Nat) (name : ByteArray) (w : World) (hlen : l.length ≤ 1000000) (hl : NdV w (· < w.heap.size) l A 0) (hk : ∀ p ∈ l, p.2.kind ≠ 14) :
    Calls Tryz.prog 7 #[.slice A l.length c, .agg #[.int .i64 14, .int .i64 0, .string name, .slice none 0 0, .slice none 0 0]] w fun e w' => Below w.heap.size w w' ∧ ∃ (n1 : Int) (s1 : ByteArray) (A1 : Option Addr) (la1 ca1 : Nat) (D1 : Option Addr) (lb1 cb1 : Nat), e = .returned (.agg #[.int .i64 (envT l name).kind, .int .i64 n1, .string s1, .slice A1 la1 ca1, .slice D1 lb1 cb1]) := by
  have HL := Lib.hid hl
  have HK := Lib.hid hk
  clear hl hk
  go_enter Tryz.func7, Tryz.ntmps7
  go_upto_region 1 with fail
  have hst := BSt.start w (.int .i64 14) (.int .i64 0) (.string name) (.slice none 0 0) (.slice none 0 0)
  generalize (w.alloc (Obj5 (.int .i64 14) (.int .i64 0) (.string name) (.slice none 0 0) (.slice none 0 0))).alloc (Obj5 (.int .i64 0) (.int .i64 0) (.string ⟨#[]⟩) (.slice none 0 0) (.slice none 0 0)) = W0 at hst ⊢
  have HST := Lib.hid hst
  clear hst
  go_wp2_with fail
  go_loopw [5] (fun s5 wr => (s5 = .int .i64 0 ∧ BSt w wr (.int .i64 14) (.int .i64 0) (.string name) (.slice none 0 0) (.slice none 0 0)) ∨ (s5 = .int .i64 1 ∧ ∃ (T : Ty) (n1 : Int) (s1 : ByteArray) (A1 D1 : Option Addr) (la1 ca1 lb1 cb1 : Nat), AL.get l name = some T ∧ BSt w wr (.int .i64 T.kind) (.int .i64 n1) (.string s1) (.slice A1 la1 ca1) (.slice D1 lb1 cb1))) (fun s5 _ => 1 - (intOf s5).toNat)
  case atStart => exact .inl ⟨rfl, HST.out⟩
  case round =>
    clear HST
    rcases hrel with ⟨rfl, hst⟩ | ⟨rfl, T, n1, s1, A1, D1, la1, ca1, lb1, cb1, hT, hst⟩
    · obtain ⟨⟨c0, c1, c2, c3, c4⟩, _⟩ := obj5_cells hst.b3
      have HST := Lib.hid hst
      clear hst
      clear c0 c1 c2 c3 c4
      obtain ⟨W1, hW1⟩ : ∃ W1, W1 = wr := ⟨_, rfl⟩
      subst hW1
      obtain ⟨⟨c0, c1, c2, c3, c4⟩, _⟩ := obj5_cells HST.out.b3
      go_wp2_with fail
      go_loopw [22, 6] (fun s22 s6 wr => ∃ (j : Nat) (fd : Bool), s22 = .int .i64 j ∧ s6 = .bool fd ∧ j ≤ l.length ∧ (fd = false → AL.get (l.drop j) name = AL.get l name) ∧ ∃ (k1 n1 : Int) (s1 : ByteArray) (A1 D1 : Option Addr) (la1 ca1 lb1 cb1 : Nat), (fd = false → s1 = name) ∧ (fd = true → ∃ T, AL.get l name = some T ∧ T.kind = k1) ∧ BSt w wr (.int .i64 k1) (.int .i64 n1) (.string s1) (.slice A1 la1 ca1) (.slice D1 lb1 cb1)) (fun s22 _ _ => l.length - (intOf s22).toNat)
      case atStart => exact ⟨0, false, rfl, rfl, Nat.zero_le _, fun _ => rfl, 14, 0, name, none, none, 0, 0, 0, 0, fun _ => rfl, fun h => (by cases h), HST.out⟩
      case round =>
        clear HST c0 c1 c2 c3 c4
        obtain ⟨j, fd, rfl, rfl, hj, hdrop, k1, n1, s1, A1, D1, la1, ca1, lb1, cb1, hs1, hfd, hst⟩ := hrel
        by_cases hlt : j < l.length
        · obtain ⟨p, hp⟩ : ∃ p, l[j]? = some p := ⟨_, List.getElem?_eq_getElem hlt⟩
          obtain ⟨b, off, A', cA, D', cD, rfl, ha, hpz, _, hcell⟩ := NdV.at_ HL.out hp
          have hbl : b < w.heap.size := ha
          have ⟨e0, e1, e2, e3, e4, e5⟩ := hcell.keep (hst.below.block b hbl)
          have hbr : b < wr.heap.size := by have := hst.below.size; omega
          have h3r := obj5_lt hst.b3
          have h4r := obj5_lt hst.b4
          obtain ⟨⟨c0, c1, c2, c3, c4⟩, m0, m1, m2, m3, m4⟩ := obj5_cells hst.b3
          have hst2 : ∀ o, BSt w (wr.alloc o) (.int .i64 k1) (.int .i64 n1) (.string s1) (.slice A1 la1 ca1) (.slice D1 lb1 cb1) := fun o => hst.alloc o
          have HST := Lib.hid hst2
          have HST0 := Lib.hid hst
          have HDR := Lib.hid hdrop
          have HS1 := Lib.hid hs1
          have HFD := Lib.hid hfd
          have hnw : w.heap.size ≠ wr.heap.size := by omega
          have hget := envT_drop (s := name) hp
          have HGET := Lib.hid hget
          clear hst hst2 hdrop hs1 hfd hcell hget
          cases fd with
          | true =>
            obtain ⟨q, hq⟩ : ∃ q, (p.1.toList == s1.toList) = q := ⟨_, rfl⟩
            cases q with
            | true =>
              go_wp2_with fail
              go_roundw
              case rel => exact ⟨j + 1, true, by go_num, rfl, by omega, fun h => (by cases h), k1, n1, s1, A1, D1, la1, ca1, lb1, cb1, fun h => (by cases h), HFD.out, HST.out _⟩
              case measure => simp [intOf]; omega
            | false =>
              go_wp2_with fail
              go_roundw
              case rel => exact ⟨j + 1, true, by go_num, rfl, by omega, fun h => (by cases h), k1, n1, s1, A1, D1, la1, ca1, lb1, cb1, fun h => (by cases h), HFD.out, HST.out _⟩
              case measure => simp [intOf]; omega
          | false =>
            obtain rfl := HS1.out rfl
            obtain ⟨q, hq⟩ : ∃ q, (p.1.toList == s1.toList) = q := ⟨_, rfl⟩
            have hq2 : (s1.toList == p.1.toList) = q := by rw [← hq]; exact beq_comm' _ _
            cases q with
            | true =>
              have hTT : AL.get l s1 = some p.2 := by rw [← HDR.out rfl, HGET.out, if_pos hq2]
              have HTT := Lib.hid hTT
              clear hTT hq2
              go_wp2_with fail
              go_roundw
              case rel =>
                refine ⟨j + 1, true, by go_num, rfl, by omega, fun h => (by cases h), p.2.kind, p.2.n, p.2.s, A', D', p.2.of.length, cA, p.2.fields.length, cD, fun h => (by cases h), fun _ => ⟨p.2, HTT.out, rfl⟩, BSt.alloc ?_ _⟩
                have hc := copied5 (a0 := .int .i64 p.2.kind) (a1 := .int .i64 p.2.n) (a2 := .string p.2.s) (a3 := .slice A' p.2.of.length cA) (a4 := .slice D' p.2.fields.length cD) HST0.out.b3
                exact ⟨((((HST0.out.below.setCell (p := ⟨w.heap.size, 0, none⟩) (Nat.le_refl _) _).setCell (p := ⟨w.heap.size, 1, none⟩) (Nat.le_refl _) _).setCell (p := ⟨w.heap.size, 2, none⟩) (Nat.le_refl _) _).setCell (p := ⟨w.heap.size, 3, none⟩) (Nat.le_refl _) _).setCell (p := ⟨w.heap.size, 4, none⟩) (Nat.le_refl _) _, hc.1, (hc.2 _ (by omega)).trans HST0.out.b4⟩
              case measure => simp [intOf]; omega
            | false =>
              have hD2 : AL.get (l.drop (j + 1)) s1 = AL.get l s1 := by rw [← HDR.out rfl, HGET.out, if_neg (by rw [hq2]; decide)]
              have HD2 := Lib.hid hD2
              clear hD2 hq2
              go_wp2_with fail
              go_roundw
              case rel => exact ⟨j + 1, false, by go_num, rfl, by omega, fun _ => HD2.out, k1, n1, s1, A1, D1, la1, ca1, lb1, cb1, fun _ => rfl, fun h => (by cases h), HST.out _⟩
              case measure => simp [intOf]; omega
        · have hd0 : l.drop j = [] := List.drop_eq_nil_of_le (by omega)
          cases fd with
          | true =>
            obtain ⟨T, hT, hTk⟩ := hfd rfl
            have HST := Lib.hid hst
            clear hst hfd hdrop hs1 hd0
            go_wp2_with fail
            go_roundw
            case rel => exact .inr ⟨by go_num, T, n1, s1, A1, D1, la1, ca1, lb1, cb1, hT, by rw [hTk]; exact HST.out⟩
            case measure => simp [intOf]
          | false =>
            have hnone : AL.get l name = none := by rw [← hdrop rfl, hd0]; rfl
            have hkz : (envT l name).kind = 0 := by unfold envT; rw [hnone]; rfl
            have HKZ := Lib.hid hkz
            have HST := Lib.hid hst
            obtain ⟨⟨d0, d1, d2, d3, d4⟩, m0, m1, m2, m3, m4⟩ := obj5_cells hst.b4
            clear hst hfd hdrop hs1 hd0 hnone hkz
            go_wp2_with fail
            have hc := copied5 (a0 := .int .i64 0) (a1 := .int .i64 0) (a2 := .string ⟨#[]⟩) (a3 := .slice none 0 0) (a4 := .slice none 0 0) HST.out.b4
            refine bodyPost_ret (v := .agg #[.int .i64 0, .int .i64 0, .string ⟨#[]⟩, .slice none 0 0, .slice none 0 0]) (by simp [results, Tryz.results7, go_sem, World.cell?, hc.1]) rfl ⟨?_, _, _, _, _, _, _, _, _, by rw [HKZ.out]⟩
            exact ((((HST.out.below.setCell (p := ⟨w.heap.size + 1, 0, none⟩) (by show w.heap.size ≤ w.heap.size + 1; omega) _).setCell (p := ⟨w.heap.size + 1, 1, none⟩) (by show w.heap.size ≤ w.heap.size + 1; omega) _).setCell (p := ⟨w.heap.size + 1, 2, none⟩) (by show w.heap.size ≤ w.heap.size + 1; omega) _).setCell (p := ⟨w.heap.size + 1, 3, none⟩) (by show w.heap.size ≤ w.heap.size + 1; omega) _).setCell (p := ⟨w.heap.size + 1, 4, none⟩) (by show w.heap.size ≤ w.heap.size + 1; omega) _
    · obtain ⟨⟨c0, c1, c2, c3, c4⟩, _⟩ := obj5_cells hst.b3
      obtain ⟨⟨d0, d1, d2, d3, d4⟩, m0, m1, m2, m3, m4⟩ := obj5_cells hst.b4
      have hk14 : T.kind ≠ 14 := HK.out _ (get_mem l name T hT)
      have heT : (envT l name).kind = T.kind := by unfold envT; rw [hT]; rfl
      have HST := Lib.hid hst
      have HET := Lib.hid heT
      clear hst hT heT
      obtain ⟨q, hq⟩ : ∃ q, T.kind = q := ⟨_, rfl⟩
      rw [hq] at c0 hk14 HET HST
      go_wp2_with fail
      have hc := copied5 (a0 := .int .i64 q) (a1 := .int .i64 n1) (a2 := .string s1) (a3 := .slice A1 la1 ca1) (a4 := .slice D1 lb1 cb1) HST.out.b4
      refine bodyPost_ret (v := .agg #[.int .i64 q, .int .i64 n1, .string s1, .slice A1 la1 ca1, .slice D1 lb1 cb1]) (by simp [results, Tryz.results7, go_sem, World.cell?, hc.1]) rfl ⟨?_, _, _, _, _, _, _, _, _, by rw [HET.out]⟩
      exact ((((HST.out.below.setCell (p := ⟨w.heap.size + 1, 0, none⟩) (by show w.heap.size ≤ w.heap.size + 1; omega) _).setCell (p := ⟨w.heap.size + 1, 1, none⟩) (by show w.heap.size ≤ w.heap.size + 1; omega) _).setCell (p := ⟨w.heap.size + 1, 2, none⟩) (by show w.heap.size ≤ w.heap.size + 1; omega) _).setCell (p := ⟨w.heap.size + 1, 3, none⟩) (by show w.heap.size ≤ w.heap.size + 1; omega) _).setCell (p := ⟨w.heap.size + 1, 4, none⟩) (by show w.heap.size ≤ w.heap.size + 1; omega) _
end Go.Proofs.YtnmgocbmofbppaaGreatDoor
namespace Go.Proofs.YtnmgocbmofbppaaGreatDoor
open Go.RowKit

/-- A digit of base 16. -/
def hexV (c : Int) : Int × Bool := if 48 ≤ c ∧ c ≤ 57 then (c - 48, true) else if 97 ≤ c ∧ c ≤ 102 then (c - 97 + 10, true) else if 65 ≤ c ∧ c ≤ 70 then (c - 65 + 10, true) else (0, false)
set_option maxHeartbeats 1000000 in
theorem unhex_any (c : Int) (h0 : 0 ≤ c) (h1 : c ≤ 255) (w : World) : Calls Tryz.prog 87 #[.int .u8 c] w fun e w' => e = .returned (.tuple #[.int .i32 (hexV c).1, .bool (hexV c).2]) ∧ w = w' := by
  go_enter Tryz.func87, Tryz.ntmps87
  go_wp2
  all_goals
    go_ret2
    refine ⟨?_, rfl⟩
    unfold hexV
    repeat' split
    all_goals first
      | rfl
      | (exfalso; omega)
/-- What UnquoteChar leaves, at a quotation mark of two strokes. -/
def UqPost (o : Option (Int × Bool × ByteArray)) (w : World) (e : Ending) (w' : World) : Prop := Below w.heap.size w w' ∧ (∀ r mb t, o = some (r, mb, t) → e = .returned (.tuple #[.int .i32 r, .bool mb, .string t, .nilIface])) ∧
  (o = none → ∃ a, e = .returned (.tuple #[.int .i32 0, .bool false, .string ⟨#[]⟩, .iface 154 (.pointer (some a))]))
def UqOk (s : ByteArray) (o : Option (Int × Bool × ByteArray)) : Prop := ∀ r mb t, o = some (r, mb, t) → t.size < s.size ∧ (mb = true → -2147483648 ≤ r ∧ r ≤ 2147483647 ∧ (Lib.runeCells r).length ≤ 3 * (s.size - t.size))
def UqC (s : ByteArray) (o : Option (Int × Bool × ByteArray)) : Prop := ∀ (w : World), Lib.Utf8Tabs 6 7 w → ErrS w → Calls Tryz.prog 82 #[.string s, .int .u8 34] w (UqPost o w)
theorem res4 {fn : Func} {t u v x : Tmp} (h : fn.results = #[.tmp t, .tmp u, .tmp v, .tmp x]) (tmps : Array Value) (P : Program) (w : World) :
    (results fn tmps).run P w = .ok (.tuple #[tmps.getD t undef, tmps.getD u undef, tmps.getD v undef, tmps.getD x undef]) w := by
  simp [results, h]
theorem UqPost.ok (w : World) (r : Int) (mb : Bool) (t : ByteArray) : UqPost (some (r, mb, t)) w (.returned (.tuple #[.int .i32 r, .bool mb, .string t, .nilIface])) w :=
  ⟨Below.refl _ _, fun r' mb' t' e => by obtain ⟨rfl, rfl, rfl⟩ : r = r' ∧ mb = mb' ∧ t = t' := by simpa using e
                                         rfl, fun e => by cases e⟩
theorem UqPost.bad (w : World) (a : Addr) {w' : World} (hb : Below w.heap.size w w') : UqPost none w (.returned (.tuple #[.int .i32 0, .bool false, .string ⟨#[]⟩, .iface 154 (.pointer (some a))])) w' :=
  ⟨hb, (fun r mb t e => by cases e), fun _ => ⟨a, rfl⟩⟩
theorem uqOk_none (s : ByteArray) : UqOk s none := fun r mb t e => by cases e
theorem uqOk_byte {s : ByteArray} {r : Int} {n : Nat} (hn : n ≤ s.size) (h0 : 0 < n) : UqOk s (some (r, false, s.extract n s.size)) := fun r' mb t e => by
  obtain ⟨rfl, rfl, rfl⟩ : r = r' ∧ false = mb ∧ s.extract n s.size = t := by simpa using e
  exact ⟨by simp; omega, fun h => by cases h⟩
set_option maxHeartbeats 1000000 in
set_option maxRecDepth 100000 in
theorem uqc_97 (s : ByteArray) (hs : 1 < s.size) (hs2 : s.size ≤ 1000000) (h0 : (s[0].toNat : Int) = 92) (h1 : (s[1].toNat : Int) = 97) : UqC s (some (7, false, s.extract 2 s.size)) := by
  intro w _ _
  have hz : ((s.size : Int) == 0) = false := by rw [beq_eq_false_iff_ne]; omega
  have hz1 : decide ((s.size : Int) ≤ 1) = false := decide_eq_false (by omega)
  go_enter Tryz.func82, Tryz.ntmps82
  go_wp2
  (try simp only [Exit.inBlock, Exit.then])
  refine bodyPost_ret (res4 rfl _ _ _) rfl ?_
  exact UqPost.ok _ _ _ _
set_option maxHeartbeats 1000000 in
set_option maxRecDepth 100000 in
theorem uqc_98 (s : ByteArray) (hs : 1 < s.size) (hs2 : s.size ≤ 1000000) (h0 : (s[0].toNat : Int) = 92) (h1 : (s[1].toNat : Int) = 98) : UqC s (some (8, false, s.extract 2 s.size)) := by
  intro w _ _
  have hz : ((s.size : Int) == 0) = false := by rw [beq_eq_false_iff_ne]; omega
  have hz1 : decide ((s.size : Int) ≤ 1) = false := decide_eq_false (by omega)
  go_enter Tryz.func82, Tryz.ntmps82
  go_wp2
  (try simp only [Exit.inBlock, Exit.then])
  refine bodyPost_ret (res4 rfl _ _ _) rfl ?_
  exact UqPost.ok _ _ _ _
set_option maxHeartbeats 1000000 in
set_option maxRecDepth 100000 in
theorem uqc_102 (s : ByteArray) (hs : 1 < s.size) (hs2 : s.size ≤ 1000000) (h0 : (s[0].toNat : Int) = 92) (h1 : (s[1].toNat : Int) = 102) : UqC s (some (12, false, s.extract 2 s.size)) := by
  intro w _ _
  have hz : ((s.size : Int) == 0) = false := by rw [beq_eq_false_iff_ne]; omega
  have hz1 : decide ((s.size : Int) ≤ 1) = false := decide_eq_false (by omega)
  go_enter Tryz.func82, Tryz.ntmps82
  go_wp2
  (try simp only [Exit.inBlock, Exit.then])
  refine bodyPost_ret (res4 rfl _ _ _) rfl ?_
  exact UqPost.ok _ _ _ _
set_option maxHeartbeats 1000000 in
set_option maxRecDepth 100000 in
theorem uqc_110 (s : ByteArray) (hs : 1 < s.size) (hs2 : s.size ≤ 1000000) (h0 : (s[0].toNat : Int) = 92) (h1 : (s[1].toNat : Int) = 110) : UqC s (some (10, false, s.extract 2 s.size)) := by
  intro w _ _
  have hz : ((s.size : Int) == 0) = false := by rw [beq_eq_false_iff_ne]; omega
  have hz1 : decide ((s.size : Int) ≤ 1) = false := decide_eq_false (by omega)
  go_enter Tryz.func82, Tryz.ntmps82
  go_wp2
  (try simp only [Exit.inBlock, Exit.then])
  refine bodyPost_ret (res4 rfl _ _ _) rfl ?_
  exact UqPost.ok _ _ _ _
set_option maxHeartbeats 1000000 in
set_option maxRecDepth 100000 in
theorem uqc_114 (s : ByteArray) (hs : 1 < s.size) (hs2 : s.size ≤ 1000000) (h0 : (s[0].toNat : Int) = 92) (h1 : (s[1].toNat : Int) = 114) : UqC s (some (13, false, s.extract 2 s.size)) := by
  intro w _ _
  have hz : ((s.size : Int) == 0) = false := by rw [beq_eq_false_iff_ne]; omega
  have hz1 : decide ((s.size : Int) ≤ 1) = false := decide_eq_false (by omega)
  go_enter Tryz.func82, Tryz.ntmps82
  go_wp2
  (try simp only [Exit.inBlock, Exit.then])
  refine bodyPost_ret (res4 rfl _ _ _) rfl ?_
  exact UqPost.ok _ _ _ _
set_option maxHeartbeats 1000000 in
set_option maxRecDepth 100000 in
theorem uqc_116 (s : ByteArray) (hs : 1 < s.size) (hs2 : s.size ≤ 1000000) (h0 : (s[0].toNat : Int) = 92) (h1 : (s[1].toNat : Int) = 116) : UqC s (some (9, false, s.extract 2 s.size)) := by
  intro w _ _
  have hz : ((s.size : Int) == 0) = false := by rw [beq_eq_false_iff_ne]; omega
  have hz1 : decide ((s.size : Int) ≤ 1) = false := decide_eq_false (by omega)
  go_enter Tryz.func82, Tryz.ntmps82
  go_wp2
  (try simp only [Exit.inBlock, Exit.then])
  refine bodyPost_ret (res4 rfl _ _ _) rfl ?_
  exact UqPost.ok _ _ _ _
set_option maxHeartbeats 1000000 in
set_option maxRecDepth 100000 in
theorem uqc_118 (s : ByteArray) (hs : 1 < s.size) (hs2 : s.size ≤ 1000000) (h0 : (s[0].toNat : Int) = 92) (h1 : (s[1].toNat : Int) = 118) : UqC s (some (11, false, s.extract 2 s.size)) := by
  intro w _ _
  have hz : ((s.size : Int) == 0) = false := by rw [beq_eq_false_iff_ne]; omega
  have hz1 : decide ((s.size : Int) ≤ 1) = false := decide_eq_false (by omega)
  go_enter Tryz.func82, Tryz.ntmps82
  go_wp2
  (try simp only [Exit.inBlock, Exit.then])
  refine bodyPost_ret (res4 rfl _ _ _) rfl ?_
  exact UqPost.ok _ _ _ _
set_option maxHeartbeats 1000000 in
set_option maxRecDepth 100000 in
theorem uqc_92 (s : ByteArray) (hs : 1 < s.size) (hs2 : s.size ≤ 1000000) (h0 : (s[0].toNat : Int) = 92) (h1 : (s[1].toNat : Int) = 92) : UqC s (some (92, false, s.extract 2 s.size)) := by
  intro w _ _
  have hz : ((s.size : Int) == 0) = false := by rw [beq_eq_false_iff_ne]; omega
  have hz1 : decide ((s.size : Int) ≤ 1) = false := decide_eq_false (by omega)
  go_enter Tryz.func82, Tryz.ntmps82
  go_wp2
  (try simp only [Exit.inBlock, Exit.then])
  refine bodyPost_ret (res4 rfl _ _ _) rfl ?_
  exact UqPost.ok _ _ _ _
set_option maxHeartbeats 1000000 in
set_option maxRecDepth 100000 in
theorem uqc_34 (s : ByteArray) (hs : 1 < s.size) (hs2 : s.size ≤ 1000000) (h0 : (s[0].toNat : Int) = 92) (h1 : (s[1].toNat : Int) = 34) : UqC s (some (34, false, s.extract 2 s.size)) := by
  intro w _ _
  have hz : ((s.size : Int) == 0) = false := by rw [beq_eq_false_iff_ne]; omega
  have hz1 : decide ((s.size : Int) ≤ 1) = false := decide_eq_false (by omega)
  go_enter Tryz.func82, Tryz.ntmps82
  go_wp2
  (try simp only [Exit.inBlock, Exit.then])
  refine bodyPost_ret (res4 rfl _ _ _) rfl ?_
  exact UqPost.ok _ _ _ _
theorem below_dN (w : World) (n : Nat) : Below w.heap.size w (w.drewN n) := ⟨rfl, rfl, rfl, Nat.le_refl _, fun _ _ => rfl⟩
end Go.Proofs.YtnmgocbmofbppaaGreatDoor
namespace Go.Proofs.YtnmgocbmofbppaaGreatDoor
open Go.RowKit

theorem runeCells_le (r : Int) : (Lib.runeCells r).length ≤ 4 := by
  unfold Lib.runeCells
  rw [List.length_map]
  unfold Lib.encodeRuneZ
  repeat' split
  all_goals simp
theorem decodeN_one (n b0 b1 b2 b3 : Nat) (h : (Lib.decodeN n b0 b1 b2 b3).2 < 2) : (Lib.decodeN n b0 b1 b2 b3).1 < 128 ∨ (Lib.decodeN n b0 b1 b2 b3).1 = 65533 := by
  revert h
  unfold Lib.decodeN
  repeat' split
  all_goals
    intro h
    first
      | (left; assumption)
      | (right; rfl)
      | (exfalso; simp at h)
theorem decodeGo_w (s : ByteArray) (hs : 0 < s.size) : 1 ≤ (Lib.decodeGo s).2 ∧ (Lib.decodeGo s).2 ≤ s.size ∧ (Lib.decodeGo s).1 ≤ 1114111 ∧ (Lib.runeCells ((Lib.decodeGo s).1 : Int)).length ≤ 3 * (Lib.decodeGo s).2 := by
  have e : Lib.decodeGo s = Utf8.decode s 0 := by unfold Lib.decodeGo; rw [if_neg (by omega)]
  rw [e]
  have h4 := runeCells_le ((Utf8.decode s 0).1 : Int)
  have hw := Lib.width_pos s 0
  refine ⟨hw, Lib.width_le s hs, Lib.rune_le s 0, ?_⟩
  by_cases h2 : 2 ≤ (Utf8.decode s 0).2
  · omega
  · have h1 : (Utf8.decode s 0).2 = 1 := by omega
    have h3 : (Utf8.decode s 0).1 < 128 ∨ (Utf8.decode s 0).1 = 65533 := by
      rw [Lib.decode_at] at h1 ⊢
      exact decodeN_one _ _ _ _ _ (by omega)
    rw [h1]
    rcases h3 with h3 | h3
    · unfold Lib.runeCells
      rw [List.length_map, Lib.encodeRuneZ_one (by omega) (by omega)]
      simp
    · rw [h3]
      decide
set_option maxHeartbeats 1000000 in
set_option maxRecDepth 100000 in
theorem uqc_empty (s : ByteArray) (hs : s.size = 0) : UqC s none := by
  intro w _ ⟨a, ha⟩
  have hz : ((s.size : Int) == 0) = true := by rw [beq_iff_eq]; omega
  clear hs
  go_enter Tryz.func82, Tryz.ntmps82
  go_wp2
  (try simp only [Exit.inBlock, Exit.then])
  refine bodyPost_ret (res4 rfl _ _ _) rfl ?_
  exact UqPost.bad _ _ ((Below.refl _ _))
set_option maxHeartbeats 1000000 in
set_option maxRecDepth 100000 in
theorem uqc_quote (s : ByteArray) (hs : 0 < s.size) (hs2 : s.size ≤ 1000000) (h0 : (s[0].toNat : Int) = 34) : UqC s none := by
  intro w _ ⟨a, ha⟩
  have hz : ((s.size : Int) == 0) = false := by rw [beq_eq_false_iff_ne]; omega
  go_enter Tryz.func82, Tryz.ntmps82
  go_wp2
  (try simp only [Exit.inBlock, Exit.then])
  refine bodyPost_ret (res4 rfl _ _ _) rfl ?_
  exact UqPost.bad _ _ ((Below.refl _ _))
set_option maxHeartbeats 1000000 in
set_option maxRecDepth 100000 in
theorem uqc_low (s : ByteArray) (hs : 0 < s.size) (hs2 : s.size ≤ 1000000) (c : Int) (h0 : (s[0].toNat : Int) = c) (h1 : c < 128) (h2 : c ≠ 34) (h3 : c ≠ 92) : UqC s (some (c, false, s.extract 1 s.size)) := by
  intro w _ _
  have hz : ((s.size : Int) == 0) = false := by rw [beq_eq_false_iff_ne]; omega
  have e1 : (c == 34) = false := by simpa using h2
  have e2 : (c != 92) = true := by simpa using h3
  have hc0 : 0 ≤ c := by omega
  go_enter Tryz.func82, Tryz.ntmps82
  go_upto_region 10 with fail
  go_quiet (fail)
  go_wp2
  (try simp only [Exit.inBlock, Exit.then])
  refine bodyPost_ret (res4 rfl _ _ _) rfl ?_
  exact ⟨below_dN _ _, (UqPost.ok w _ _ _).2⟩
set_option maxHeartbeats 1000000 in
set_option maxRecDepth 100000 in
theorem uqc_high (s : ByteArray) (hs : 0 < s.size) (hs2 : s.size ≤ 1000000) (c : Int) (h0 : (s[0].toNat : Int) = c) (h1 : 128 ≤ c) : UqC s (some ((Lib.decodeGo s).1, true, s.extract (Lib.decodeGo s).2 s.size)) := by
  intro w hT _
  have hz : ((s.size : Int) == 0) = false := by rw [beq_eq_false_iff_ne]; omega
  have e1 : (c == 34) = false := by rw [beq_eq_false_iff_ne]; omega
  have hd : (Lib.decodeGo s).2 ≤ s.size := (decodeGo_w s hs).2.1
  have hd0 : (0 : Int) ≤ ((Lib.decodeGo s).2 : Int) := by omega
  have hd1 : ((Lib.decodeGo s).2 : Int) ≤ (s.size : Int) := by omega
  have HT := Lib.hid hT
  clear hT
  go_enter Tryz.func82, Tryz.ntmps82
  go_upto_region 8 with (go_at_call 60; refine (Tryz.utf8_DecodeRuneInString s w HT.out).mono ?_; rintro e w2 ⟨rfl, hb2⟩; have HB2 := Lib.hid hb2; clear hb2)
  go_quiet (fail)
  go_wp2
  (try simp only [Exit.inBlock, Exit.then])
  refine bodyPost_ret (res4 rfl _ _ _) rfl ?_
  exact ⟨HB2.out.trans ((below_dN _ _).mono HB2.out.size), (UqPost.ok w _ _ _).2⟩
set_option maxHeartbeats 1000000 in
set_option maxRecDepth 100000 in
theorem uqc_short (s : ByteArray) (hz2 : 0 < s.size) (hz1' : s.size ≤ 1) (h0 : (s[0].toNat : Int) = 92) : UqC s none := by
  intro w _ ⟨a, ha⟩
  have hz : ((s.size : Int) == 0) = false := by rw [beq_eq_false_iff_ne]; omega
  have hz1 : (s.size : Int) ≤ 1 := by omega
  go_enter Tryz.func82, Tryz.ntmps82
  go_wp2
  (try simp only [Exit.inBlock, Exit.then])
  refine bodyPost_ret (res4 rfl _ _ _) rfl ?_
  exact UqPost.bad _ _ ((Below.refl _ _))
set_option maxHeartbeats 1000000 in
set_option maxRecDepth 100000 in
theorem uqc_39 (s : ByteArray) (hs : 1 < s.size) (hs2 : s.size ≤ 1000000) (h0 : (s[0].toNat : Int) = 92) (h1 : (s[1].toNat : Int) = 39) : UqC s none := by
  intro w _ ⟨a, ha⟩
  have hz : ((s.size : Int) == 0) = false := by rw [beq_eq_false_iff_ne]; omega
  have hz1 : decide ((s.size : Int) ≤ 1) = false := decide_eq_false (by omega)
  go_enter Tryz.func82, Tryz.ntmps82
  go_wp2
  (try simp only [Exit.inBlock, Exit.then])
  refine bodyPost_ret (res4 rfl _ _ _) rfl ?_
  exact UqPost.bad _ _ ((Below.refl _ _))
/-- The letters behind a stroke that mean something. -/
def escs : List Int := [97, 98, 102, 110, 114, 116, 118, 120, 117, 85, 48, 49, 50, 51, 52, 53, 54, 55, 92, 39, 34]
set_option maxHeartbeats 1000000 in
set_option maxRecDepth 100000 in
theorem uqc_else (s : ByteArray) (hs : 1 < s.size) (hs2 : s.size ≤ 1000000) (h0 : (s[0].toNat : Int) = 92) (c : Int) (h1 : (s[1].toNat : Int) = c) (h2 : c ∉ escs) : UqC s none := by
  intro w _ ⟨a, ha⟩
  have hz : ((s.size : Int) == 0) = false := by rw [beq_eq_false_iff_ne]; omega
  have hz1 : decide ((s.size : Int) ≤ 1) = false := decide_eq_false (by omega)
  simp only [escs, List.mem_cons, List.not_mem_nil, or_false, not_or] at h2
  obtain ⟨a1, a2, a3, a4, a5, a6, a7, a8, a9, a10, a11, a12, a13, a14, a15, a16, a17, a18, a19, a20, a21⟩ := h2
  have b1 := beq_eq_false_iff_ne.2 a1
  have b2 := beq_eq_false_iff_ne.2 a2
  have b3 := beq_eq_false_iff_ne.2 a3
  have b4 := beq_eq_false_iff_ne.2 a4
  have b5 := beq_eq_false_iff_ne.2 a5
  have b6 := beq_eq_false_iff_ne.2 a6
  have b7 := beq_eq_false_iff_ne.2 a7
  have b8 := beq_eq_false_iff_ne.2 a8
  have b9 := beq_eq_false_iff_ne.2 a9
  have b10 := beq_eq_false_iff_ne.2 a10
  have b11 := beq_eq_false_iff_ne.2 a11
  have b12 := beq_eq_false_iff_ne.2 a12
  have b13 := beq_eq_false_iff_ne.2 a13
  have b14 := beq_eq_false_iff_ne.2 a14
  have b15 := beq_eq_false_iff_ne.2 a15
  have b16 := beq_eq_false_iff_ne.2 a16
  have b17 := beq_eq_false_iff_ne.2 a17
  have b18 := beq_eq_false_iff_ne.2 a18
  have b19 := beq_eq_false_iff_ne.2 a19
  have b20 := beq_eq_false_iff_ne.2 a20
  have b21 := beq_eq_false_iff_ne.2 a21
  clear a1 a2 a3 a4 a5 a6 a7 a8 a9 a10 a11 a12 a13 a14 a15 a16 a17 a18 a19 a20 a21
  go_enter Tryz.func82, Tryz.ntmps82
  go_wp2
  (try simp only [Exit.inBlock, Exit.then])
  refine bodyPost_ret (res4 rfl _ _ _) rfl ?_
  exact UqPost.bad _ _ ((Below.refl _ _))
end Go.Proofs.YtnmgocbmofbppaaGreatDoor
namespace Go.Proofs.YtnmgocbmofbppaaGreatDoor
open Go.RowKit

/-- The number of the first digits. -/
def hexN (t : ByteArray) : Nat → Option Int
  | 0 => some 0
  | j + 1 => match hexN t j with
    | none => none
    | some v => if h : j < t.size then (if (hexV (t[j].toNat : Int)).2 then some (bits .or .i32 (wrap32 (v * 16)) (hexV (t[j].toNat : Int)).1) else none) else none
theorem hexN_none {t : ByteArray} {k : Nat} (h : hexN t k = none) : ∀ n, k ≤ n → hexN t n = none
  | 0, hn => by
    obtain rfl : k = 0 := by omega
    exact h
  | n + 1, hn => by
    by_cases e : k = n + 1
    · rw [← e]; exact h
    · have := hexN_none h n (by omega)
      simp only [hexN, this]
theorem hexN_yes {t : ByteArray} {k : Nat} {v y : Int} {c : Int} (h : hexN t k = some v) (hk : k < t.size) (hc : (t[k].toNat : Int) = c) (hy : (hexV c).1 = y) (hq : (hexV c).2 = true) : hexN t (k + 1) = some (bits .or .i32 (wrap32 (v * 16)) y) := by
  simp only [hexN, h, dif_pos hk, hc, hq, if_true, hy]
theorem hexN_no {t : ByteArray} {k : Nat} {v : Int} {c : Int} (h : hexN t k = some v) (hk : k < t.size) (hc : (t[k].toNat : Int) = c) (hq : (hexV c).2 = false) : hexN t (k + 1) = none := by
  simp only [hexN, h, dif_pos hk, hc, hq]
  rfl
/-- A number of base 16, behind two bytes. -/
def hexO (s : ByteArray) (x : Bool) (n : Nat) : Option (Int × Bool × ByteArray) :=
  if (s.extract 2 s.size).size < n then none else match hexN (s.extract 2 s.size) n with
    | none => none
    | some v => if x then some (v, false, (s.extract 2 s.size).extract n (s.size - 2)) else if Lib.validRune v then some (v, true, (s.extract 2 s.size).extract n (s.size - 2)) else none
set_option maxHeartbeats 4000000 in
set_option maxRecDepth 100000 in
theorem uqc_120 (s : ByteArray) (hs : 1 < s.size) (hs2 : s.size ≤ 1000000) (h0 : (s[0].toNat : Int) = 92) (h1 : (s[1].toNat : Int) = 120) : UqC s (hexO s true 2) := by
  intro w _ ⟨a, ha⟩
  have hz : ((s.size : Int) == 0) = false := by rw [beq_eq_false_iff_ne]; omega
  have hz1 : decide ((s.size : Int) ≤ 1) = false := decide_eq_false (by omega)
  have hts : (s.extract 2 s.size).size = s.size - 2 := by simp
  unfold hexO
  rw [hts]
  by_cases hn : s.size - 2 < 2
  · rw [if_pos hn]
    have hn' : ((s.size - 2 : Nat) : Int) < 2 := by omega
    clear hts
    go_enter Tryz.func82, Tryz.ntmps82
    go_wp2
    (try simp only [Exit.inBlock, Exit.then])
    refine bodyPost_ret (res4 rfl _ _ _) rfl ?_
    exact UqPost.bad _ _ (Below.refl _ _)
  · rw [if_neg hn]
    obtain ⟨o, ho⟩ : ∃ o, (match hexN (s.extract 2 s.size) 2 with
      | none => none
      | some v => if true = true then some (v, false, (s.extract 2 s.size).extract 2 (s.size - 2)) else if Lib.validRune v then some (v, true, (s.extract 2 s.size).extract 2 (s.size - 2)) else none) = o := ⟨_, rfl⟩
    rw [ho]
    have HO := Lib.hid ho
    clear ho
    have hn' : decide (((s.size - 2 : Nat) : Int) < 2) = false := decide_eq_false (by omega)
    have hn2 : 2 ≤ s.size - 2 := by omega
    have HTS := Lib.hid hts
    clear hts hn
    go_enter Tryz.func82, Tryz.ntmps82
    go_wp2
    go_loop [7, 13, 14] (fun er v j => er = .nilIface ∧ ∃ (k : Nat) (x : Int), k ≤ 2 ∧ j = .int .i64 k ∧ v = .int .i32 x ∧ hexN (s.extract 2 s.size) k = some x) (fun _ _ j => 2 - (intOf j).toNat)
    case atStart => exact ⟨rfl, 0, 0, by omega, rfl, rfl, rfl⟩
    case round =>
      obtain ⟨rfl, k, x, hk, rfl, rfl, hx⟩ := hrel
      by_cases hlt : k < 2
      · have hkt : k < (s.extract 2 s.size).size := by rw [HTS.out]; omega
        obtain ⟨c, hc⟩ : ∃ c : Int, ((s.extract 2 s.size)[k].toNat : Int) = c := ⟨_, rfl⟩
        have hc0 : 0 ≤ c := by omega
        have hc1 : c ≤ 255 := by have := UInt8.toNat_lt (s.extract 2 s.size)[k]; omega
        obtain ⟨y, hy⟩ : ∃ y, (hexV c).1 = y := ⟨_, rfl⟩
        obtain ⟨q, hq⟩ : ∃ q, (hexV c).2 = q := ⟨_, rfl⟩
        have hux := unhex_any c hc0 hc1 w
        rw [hy, hq] at hux
        have HUX := Lib.hid hux
        have HX := Lib.hid hx
        cases q with
        | false =>
          have hno := hexN_none (hexN_no hx hkt hc hq) 2 (by omega)
          have HNO := Lib.hid hno
          clear hux hy hq hx hno
          go_wp2_with (go_at_call 87; refine HUX.out.mono ?_; rintro e w2 ⟨rfl, rfl⟩)
          (try simp only [Exit.inBlock, Exit.then])
          refine bodyPost_ret (res4 rfl _ _ _) rfl ?_
          have e := HO.out
          rw [HNO.out] at e
          obtain rfl := e
          exact UqPost.bad _ _ (Below.refl _ _)
        | true =>
          have hyes := hexN_yes hx hkt hc hy hq
          have HYES := Lib.hid hyes
          clear hux hy hq hx hyes
          go_wp2_with (go_at_call 87; refine HUX.out.mono ?_; rintro e w2 ⟨rfl, rfl⟩)
          go_round
          case rel => exact ⟨rfl, k + 1, _, by omega, by go_num, rfl, HYES.out⟩
          case measure => simp [intOf]; omega
      · obtain rfl : k = 2 := by omega
        have HX := Lib.hid hx
        clear hx
        go_wp2
        (try simp only [Exit.inBlock, Exit.then])
        refine bodyPost_ret (res4 rfl _ _ _) rfl ?_
        have e := HO.out
        rw [HX.out] at e
        simp only [if_true] at e
        obtain rfl := e
        exact UqPost.ok _ _ _ _
set_option maxHeartbeats 4000000 in
set_option maxRecDepth 100000 in
theorem uqc_117 (s : ByteArray) (hs : 1 < s.size) (hs2 : s.size ≤ 1000000) (h0 : (s[0].toNat : Int) = 92) (h1 : (s[1].toNat : Int) = 117) : UqC s (hexO s false 4) := by
  intro w _ ⟨a, ha⟩
  have hz : ((s.size : Int) == 0) = false := by rw [beq_eq_false_iff_ne]; omega
  have hz1 : decide ((s.size : Int) ≤ 1) = false := decide_eq_false (by omega)
  have hts : (s.extract 2 s.size).size = s.size - 2 := by simp
  unfold hexO
  rw [hts]
  by_cases hn : s.size - 2 < 4
  · rw [if_pos hn]
    have hn' : ((s.size - 2 : Nat) : Int) < 4 := by omega
    clear hts
    go_enter Tryz.func82, Tryz.ntmps82
    go_wp2
    (try simp only [Exit.inBlock, Exit.then])
    refine bodyPost_ret (res4 rfl _ _ _) rfl ?_
    exact UqPost.bad _ _ (Below.refl _ _)
  · rw [if_neg hn]
    obtain ⟨o, ho⟩ : ∃ o, (match hexN (s.extract 2 s.size) 4 with
      | none => none
      | some v => if false = true then some (v, false, (s.extract 2 s.size).extract 4 (s.size - 2)) else if Lib.validRune v then some (v, true, (s.extract 2 s.size).extract 4 (s.size - 2)) else none) = o := ⟨_, rfl⟩
    rw [ho]
    have HO := Lib.hid ho
    clear ho
    have hn' : decide (((s.size - 2 : Nat) : Int) < 4) = false := decide_eq_false (by omega)
    have hn2 : 4 ≤ s.size - 2 := by omega
    have HTS := Lib.hid hts
    clear hts hn
    go_enter Tryz.func82, Tryz.ntmps82
    go_wp2
    go_loop [7, 13, 14] (fun er v j => er = .nilIface ∧ ∃ (k : Nat) (x : Int), k ≤ 4 ∧ j = .int .i64 k ∧ v = .int .i32 x ∧ hexN (s.extract 2 s.size) k = some x) (fun _ _ j => 4 - (intOf j).toNat)
    case atStart => exact ⟨rfl, 0, 0, by omega, rfl, rfl, rfl⟩
    case round =>
      obtain ⟨rfl, k, x, hk, rfl, rfl, hx⟩ := hrel
      by_cases hlt : k < 4
      · have hkt : k < (s.extract 2 s.size).size := by rw [HTS.out]; omega
        obtain ⟨c, hc⟩ : ∃ c : Int, ((s.extract 2 s.size)[k].toNat : Int) = c := ⟨_, rfl⟩
        have hc0 : 0 ≤ c := by omega
        have hc1 : c ≤ 255 := by have := UInt8.toNat_lt (s.extract 2 s.size)[k]; omega
        obtain ⟨y, hy⟩ : ∃ y, (hexV c).1 = y := ⟨_, rfl⟩
        obtain ⟨q, hq⟩ : ∃ q, (hexV c).2 = q := ⟨_, rfl⟩
        have hux := unhex_any c hc0 hc1 w
        rw [hy, hq] at hux
        have HUX := Lib.hid hux
        have HX := Lib.hid hx
        cases q with
        | false =>
          have hno := hexN_none (hexN_no hx hkt hc hq) 4 (by omega)
          have HNO := Lib.hid hno
          clear hux hy hq hx hno
          go_wp2_with (go_at_call 87; refine HUX.out.mono ?_; rintro e w2 ⟨rfl, rfl⟩)
          (try simp only [Exit.inBlock, Exit.then])
          refine bodyPost_ret (res4 rfl _ _ _) rfl ?_
          have e := HO.out
          rw [HNO.out] at e
          obtain rfl := e
          exact UqPost.bad _ _ (Below.refl _ _)
        | true =>
          have hyes := hexN_yes hx hkt hc hy hq
          have HYES := Lib.hid hyes
          clear hux hy hq hx hyes
          go_wp2_with (go_at_call 87; refine HUX.out.mono ?_; rintro e w2 ⟨rfl, rfl⟩)
          go_round
          case rel => exact ⟨rfl, k + 1, _, by omega, by go_num, rfl, HYES.out⟩
          case measure => simp [intOf]; omega
      · obtain rfl : k = 4 := by omega
        have HX := Lib.hid hx
        clear hx
        obtain ⟨vr, hvr⟩ : ∃ b, Lib.validRune x = b := ⟨_, rfl⟩
        have hcall := Tryz.utf8_ValidRune x w
        rw [hvr] at hcall
        have HCALL := Lib.hid hcall
        have HVR := Lib.hid hvr
        clear hcall hvr
        cases vr with
        | true =>
          go_wp2_with (go_at_call 88; refine HCALL.out.mono ?_; rintro e w2 ⟨rfl, rfl⟩)
          (try simp only [Exit.inBlock, Exit.then])
          refine bodyPost_ret (res4 rfl _ _ _) rfl ?_
          have e := HO.out
          rw [HX.out] at e
          simp only [HVR.out, Bool.false_eq_true, if_false, if_true] at e
          obtain rfl := e
          exact UqPost.ok _ _ _ _
        | false =>
          go_wp2_with (go_at_call 88; refine HCALL.out.mono ?_; rintro e w2 ⟨rfl, rfl⟩)
          (try simp only [Exit.inBlock, Exit.then])
          refine bodyPost_ret (res4 rfl _ _ _) rfl ?_
          have e := HO.out
          rw [HX.out] at e
          simp only [HVR.out, Bool.false_eq_true, if_false, if_true] at e
          obtain rfl := e
          exact UqPost.bad _ _ (Below.refl _ _)
set_option maxHeartbeats 4000000 in
set_option maxRecDepth 100000 in
theorem uqc_85 (s : ByteArray) (hs : 1 < s.size) (hs2 : s.size ≤ 1000000) (h0 : (s[0].toNat : Int) = 92) (h1 : (s[1].toNat : Int) = 85) : UqC s (hexO s false 8) := by
  intro w _ ⟨a, ha⟩
  have hz : ((s.size : Int) == 0) = false := by rw [beq_eq_false_iff_ne]; omega
  have hz1 : decide ((s.size : Int) ≤ 1) = false := decide_eq_false (by omega)
  have hts : (s.extract 2 s.size).size = s.size - 2 := by simp
  unfold hexO
  rw [hts]
  by_cases hn : s.size - 2 < 8
  · rw [if_pos hn]
    have hn' : ((s.size - 2 : Nat) : Int) < 8 := by omega
    clear hts
    go_enter Tryz.func82, Tryz.ntmps82
    go_wp2
    (try simp only [Exit.inBlock, Exit.then])
    refine bodyPost_ret (res4 rfl _ _ _) rfl ?_
    exact UqPost.bad _ _ (Below.refl _ _)
  · rw [if_neg hn]
    obtain ⟨o, ho⟩ : ∃ o, (match hexN (s.extract 2 s.size) 8 with
      | none => none
      | some v => if false = true then some (v, false, (s.extract 2 s.size).extract 8 (s.size - 2)) else if Lib.validRune v then some (v, true, (s.extract 2 s.size).extract 8 (s.size - 2)) else none) = o := ⟨_, rfl⟩
    rw [ho]
    have HO := Lib.hid ho
    clear ho
    have hn' : decide (((s.size - 2 : Nat) : Int) < 8) = false := decide_eq_false (by omega)
    have hn2 : 8 ≤ s.size - 2 := by omega
    have HTS := Lib.hid hts
    clear hts hn
    go_enter Tryz.func82, Tryz.ntmps82
    go_wp2
    go_loop [7, 13, 14] (fun er v j => er = .nilIface ∧ ∃ (k : Nat) (x : Int), k ≤ 8 ∧ j = .int .i64 k ∧ v = .int .i32 x ∧ hexN (s.extract 2 s.size) k = some x) (fun _ _ j => 8 - (intOf j).toNat)
    case atStart => exact ⟨rfl, 0, 0, by omega, rfl, rfl, rfl⟩
    case round =>
      obtain ⟨rfl, k, x, hk, rfl, rfl, hx⟩ := hrel
      by_cases hlt : k < 8
      · have hkt : k < (s.extract 2 s.size).size := by rw [HTS.out]; omega
        obtain ⟨c, hc⟩ : ∃ c : Int, ((s.extract 2 s.size)[k].toNat : Int) = c := ⟨_, rfl⟩
        have hc0 : 0 ≤ c := by omega
        have hc1 : c ≤ 255 := by have := UInt8.toNat_lt (s.extract 2 s.size)[k]; omega
        obtain ⟨y, hy⟩ : ∃ y, (hexV c).1 = y := ⟨_, rfl⟩
        obtain ⟨q, hq⟩ : ∃ q, (hexV c).2 = q := ⟨_, rfl⟩
        have hux := unhex_any c hc0 hc1 w
        rw [hy, hq] at hux
        have HUX := Lib.hid hux
        have HX := Lib.hid hx
        cases q with
        | false =>
          have hno := hexN_none (hexN_no hx hkt hc hq) 8 (by omega)
          have HNO := Lib.hid hno
          clear hux hy hq hx hno
          go_wp2_with (go_at_call 87; refine HUX.out.mono ?_; rintro e w2 ⟨rfl, rfl⟩)
          (try simp only [Exit.inBlock, Exit.then])
          refine bodyPost_ret (res4 rfl _ _ _) rfl ?_
          have e := HO.out
          rw [HNO.out] at e
          obtain rfl := e
          exact UqPost.bad _ _ (Below.refl _ _)
        | true =>
          have hyes := hexN_yes hx hkt hc hy hq
          have HYES := Lib.hid hyes
          clear hux hy hq hx hyes
          go_wp2_with (go_at_call 87; refine HUX.out.mono ?_; rintro e w2 ⟨rfl, rfl⟩)
          go_round
          case rel => exact ⟨rfl, k + 1, _, by omega, by go_num, rfl, HYES.out⟩
          case measure => simp [intOf]; omega
      · obtain rfl : k = 8 := by omega
        have HX := Lib.hid hx
        clear hx
        obtain ⟨vr, hvr⟩ : ∃ b, Lib.validRune x = b := ⟨_, rfl⟩
        have hcall := Tryz.utf8_ValidRune x w
        rw [hvr] at hcall
        have HCALL := Lib.hid hcall
        have HVR := Lib.hid hvr
        clear hcall hvr
        cases vr with
        | true =>
          go_wp2_with (go_at_call 88; refine HCALL.out.mono ?_; rintro e w2 ⟨rfl, rfl⟩)
          (try simp only [Exit.inBlock, Exit.then])
          refine bodyPost_ret (res4 rfl _ _ _) rfl ?_
          have e := HO.out
          rw [HX.out] at e
          simp only [HVR.out, Bool.false_eq_true, if_false, if_true] at e
          obtain rfl := e
          exact UqPost.ok _ _ _ _
        | false =>
          go_wp2_with (go_at_call 88; refine HCALL.out.mono ?_; rintro e w2 ⟨rfl, rfl⟩)
          (try simp only [Exit.inBlock, Exit.then])
          refine bodyPost_ret (res4 rfl _ _ _) rfl ?_
          have e := HO.out
          rw [HX.out] at e
          simp only [HVR.out, Bool.false_eq_true, if_false, if_true] at e
          obtain rfl := e
          exact UqPost.bad _ _ (Below.refl _ _)
end Go.Proofs.YtnmgocbmofbppaaGreatDoor
