/- fault: an error as data. Plain: what holds of every field's rules holds of all that getTypeInfo says; paths do not begin with an empty name. -/
import Derived.Test.YtnmgocbmofbppaaGreatDoorA26
import Derived.Deep.RegionHeldLaw
import Derived.Deep.RegionHeld3
import Derived.WalkMore
import Derived.KernelRfl
import Derived.Outline
import Derived.BigGuardPart
import Derived.Deep.DeepMust
import Derived.Deep.LoopGhost
import Derived.Deep.DeepCutAuto
import Derived.Deep.CutBlock
import Derived.Deep.QuietTactic
import Derived.BigQuiet
import Derived.Lib.Hide
import Derived.WalkSpells
import Derived.Deep.Light
import Derived.Deep.RegionWith
import Derived.WalkLawsBesides
import Derived.StillTailTactics
import Derived.LaidEql
import Derived.Deep.DrawnRows

set_option linter.unusedVariables false
set_option linter.unusedSimpArgs false

namespace Go.Proofs.YtnmgocbmofbppaaGreatDoor
open Go.RowKit

/-- io.EOF lies in an old block. -/
def EofC (B : Nat) (w : World) : Prop := ∃ (a : Addr) (ca : Array Value) (ta : TypeId), a.block < B ∧ 0 < B ∧ w.cell? ⟨0, 0, none⟩ = some (.iface 154 (.pointer (some a))) ∧ w.heap[a.block]? = some (.cells ca ta (0, 0))
theorem EofC.keep {B : Nat} {w w' : World} (h : EofC B w) (hb : Below B w w') : EofC B w' := by
  obtain ⟨a, ca, ta, h1, h2, h3, h4⟩ := h
  exact ⟨a, ca, ta, h1, h2, (World.cell?_of_block (hb.block 0 h2)).trans h3, (hb.block _ h1).trans h4⟩
theorem cells_of_cell {w : World} {b : Nat} {v : Value} (h : w.cell? ⟨b, 0, none⟩ = some v) : ∃ ca ta fr, w.heap[b]? = some (.cells ca ta fr) ∧ ca.size ≠ 0 := by
  simp only [World.cell?] at h
  cases hb : w.heap[b]? with
  | none => rw [hb] at h; cases h
  | some o =>
    rw [hb] at h
    cases o with
    | cells ca ta fr =>
      refine ⟨ca, ta, fr, rfl, fun e => ?_⟩
      have : ca = #[] := Array.eq_empty_of_size_eq_zero e
      subst this
      simp at h
    | _ => simp at h
theorem sameAddr_far {P : Program} (w : World) {a b : Addr} {ca cb : Array Value} {ta tb : TypeId} {fr : Nat × Nat} (hbl : a.block ≠ b.block) (ha : w.heap[a.block]? = some (.cells ca ta fr)) (hsz : ca.size ≠ 0) (hb : w.heap[b.block]? = some (.cells cb tb (0, 0))) :
    (sameAddr a b).run P w = .ok false w := by
  simp [sameAddr, hbl, World.frozen?, ha, hb, noView, viewAt, World.shape?, mayBeOne, stringish, hsz]
  repeat' split
  all_goals simp_all
theorem eql_far (w : World) {a b : Addr} {ca cb : Array Value} {ta tb : TypeId} {fr : Nat × Nat} (hbl : a.block ≠ b.block) (ha : w.heap[a.block]? = some (.cells ca ta fr)) (hsz : ca.size ≠ 0) (hb : w.heap[b.block]? = some (.cells cb tb (0, 0))) :
    (binOp .eql 62 (.iface 154 (.pointer (some a))) (.iface 154 (.pointer (some b)))).run Tryz.prog w = .ok (.bool false) w := by
  have h1 : (Tryz.prog.info? 154).map (·.comparable) = some true := by kernel_rfl
  have h2 : (Tryz.prog.info? 156).map (·.size) = some 1 := by kernel_rfl
  cases hi1 : Tryz.prog.info? 154 with
  | none => rw [hi1] at h1; cases h1
  | some i =>
  cases hj1 : Tryz.prog.info? 156 with
  | none => rw [hj1] at h2; cases h2
  | some j =>
  rw [hi1] at h1
  rw [hj1] at h2
  have hi2 : i.comparable = true := by simpa using h1
  have hj2 : j.size ≠ 0 := by have : j.size = 1 := by simpa using h2
                              omega
  have h : ∀ d : Nat, (Op.equalIn (d + 2) 62 (.iface 154 (.pointer (some a))) (.iface 154 (.pointer (some b)))).run Tryz.prog w = .ok false w := fun d => by
    simp [Op.equalIn, run_underlying Tryz.underlying62, run_underlying Tryz.underlying154, typeInfo, hi1, hi2, sizeOf, hj1, hj2, sameAddr_far w hbl ha hsz hb]
  simp only [binOp]
  simp [Op.equal, Op.maxDepth, h 9998]
theorem errString_any (eb : Nat) (s : ByteArray) (w : World) (h : w.cell? ⟨eb, 0, none⟩ = some (.string s)) : Calls Tryz.prog 131 #[.pointer (some ⟨eb, 0, none⟩)] w fun e w' => e = .returned (.string s) ∧ w = w' := by
  go_enter Tryz.func131, Tryz.ntmps131
  go_wp2
  go_ret
  exact ⟨rfl, rfl⟩
theorem nilAhead154 (a : Addr) (w : World) : (nilAhead 334 154 (.pointer (some a)) "Error").run Tryz.prog w = .ok (some false) w := by kernel_rfl
/-- A fault's value: its code, and what else. -/
def FaultV (c : Int) (e : Ending) : Prop := ∃ (ln : Int) (m t s f1 t1 f2 t2 : ByteArray), e = .returned (.agg #[.int .i64 c, .int .i64 ln, .string m, .string t, .string s, .string f1, .string t1, .string f2, .string t2])
def FaultP (c : Int) (w : World) (e : Ending) (w' : World) : Prop := FaultV c e ∧ Below w.heap.size w w'
theorem as86 (k : Nat) (hk : k = 90 ∨ k = 154) (p : Option Addr) (w : World) : (Instr.typeAssert (.iface k (.pointer p)) 62 86 true).run Tryz.prog w = .ok (.tuple #[.pointer none, .bool false]) w := by
  rcases hk with rfl | rfl <;> kernel_rfl
theorem as89 (k : Nat) (hk : k = 90 ∨ k = 154) (p : Option Addr) (w : World) : (Instr.typeAssert (.iface k (.pointer p)) 62 89 true).run Tryz.prog w = .ok (.tuple #[.string ⟨#[]⟩, .bool false]) w := by
  rcases hk with rfl | rfl <;> kernel_rfl
theorem as90 (p : Option Addr) (w : World) : (Instr.typeAssert (.iface 90 (.pointer p)) 62 90 true).run Tryz.prog w = .ok (.tuple #[.pointer p, .bool true]) w := by kernel_rfl
theorem as90n (p : Option Addr) (w : World) : (Instr.typeAssert (.iface 154 (.pointer p)) 62 90 true).run Tryz.prog w = .ok (.tuple #[.pointer none, .bool false]) w := by kernel_rfl
theorem as94n (p : Option Addr) (w : World) : (Instr.typeAssert (.iface 154 (.pointer p)) 62 94 true).run Tryz.prog w = .ok (.tuple #[.pointer none, .bool false]) w := by kernel_rfl
theorem as97n (p : Option Addr) (w : World) : (Instr.typeAssert (.iface 154 (.pointer p)) 62 97 true).run Tryz.prog w = .ok (.tuple #[.pointer none, .bool false]) w := by kernel_rfl
theorem as98n (p : Option Addr) (w : World) : (Instr.typeAssert (.iface 154 (.pointer p)) 62 98 true).run Tryz.prog w = .ok (.tuple #[.pointer none, .bool false]) w := by kernel_rfl

set_option maxHeartbeats 4000000 in
set_option maxRecDepth 100000 in
theorem fault_other {B : Nat} (eb : Nat) (s : ByteArray) (w : World) (hB : B ≤ eb) (hs : w.cell? ⟨eb, 0, none⟩ = some (.string s)) (hE : EofC B w) :
    Calls Tryz.prog 21 #[.iface 154 (.pointer (some ⟨eb, 0, none⟩))] w (FaultP 7 w) := by
  obtain ⟨ad, ca, ta, h1, h2, h3, h4⟩ := hE
  have hl : eb < w.heap.size := lt_cell hs
  have h0 : 0 < w.heap.size := lt_cell h3
  obtain ⟨cb, tb, fr, hb1, hb2⟩ := cells_of_cell hs
  have hal : ad.block < w.heap.size := by
    rcases Nat.lt_or_ge ad.block w.heap.size with h | h
    · exact h
    · rw [Array.getElem?_eq_none h] at h4; cases h4
  have hne : (⟨eb, 0, none⟩ : Addr).block ≠ ad.block := fun e => by have e : eb = ad.block := e; omega
  have hq : ∀ o, (binOp .eql 62 (.iface 154 (.pointer (some ⟨eb, 0, none⟩))) (.iface 154 (.pointer (some ad)))).run Tryz.prog (w.alloc o) = .ok (.bool false) (w.alloc o) := fun o =>
    eql_far (w.alloc o) hne ((Below.heap_alloc w o eb hl).trans hb1) hb2 ((Below.heap_alloc w o _ hal).trans h4)
  have hs1 : ∀ o, (w.alloc o).cell? ⟨eb, 0, none⟩ = some (.string s) := fun o => (World.cell?_of_block (Below.heap_alloc w o eb hl)).trans hs
  have hm : ∀ w : World, (method 334 154 (.pointer (some ⟨eb, 0, none⟩)) "Error").run Tryz.prog w = .ok (131, .pointer (some ⟨eb, 0, none⟩)) w := fun w => by kernel_rfl
  have q1 := fun (p : Option Addr) (w : World) => as86 154 (.inr rfl) p w
  have q2 := fun (p : Option Addr) (w : World) => as89 154 (.inr rfl) p w
  have q3 := as90n
  have q4 := as94n
  have q5 := as97n
  have q6 := as98n
  have q7 := nilAhead154
  have HS := Lib.hid hs1
  clear hs hs1 hb1 h4 hne
  go_enter Tryz.func21, Tryz.ntmps21
  go_wp2_with (go_at_call 131; refine (errString_any eb s _ (by exact HS.out _)).mono ?_; rintro e w2 ⟨rfl, rfl⟩)
  refine bodyPost_ret (v := .agg #[.int .i64 7, .int .i64 0, .string s, .string ⟨#[]⟩, .string ⟨#[]⟩, .string ⟨#[]⟩, .string ⟨#[]⟩, .string ⟨#[]⟩, .string ⟨#[]⟩]) (by simp [results, Tryz.results21, go_sem]) rfl ⟨⟨0, s, _, _, _, _, _, _, rfl⟩, (Below.refl _ _).alloc (Nat.le_refl _) _⟩
theorem far1 {w : World} {x eb j k : Nat} {u v : Value} (hne : x ≠ eb) (h : w.cell? ⟨eb, k, none⟩ = some u) : (w.setCell ⟨x, j, none⟩ v).cell? ⟨eb, k, none⟩ = some u :=
  (World.cell?_setCell_other _ _ _ _ (fun e => by injection e with e1 e2; exact hne e1)).trans h
theorem far9 {w : World} {x eb k : Nat} {u v0 v1 v2 v3 v4 v5 v6 v7 v8 : Value} (hne : x ≠ eb) (h : w.cell? ⟨eb, k, none⟩ = some u) :
    (((((((((w.setCell ⟨x, 0, none⟩ v0).setCell ⟨x, 1, none⟩ v1).setCell ⟨x, 2, none⟩ v2).setCell ⟨x, 3, none⟩ v3).setCell ⟨x, 4, none⟩ v4).setCell ⟨x, 5, none⟩ v5).setCell ⟨x, 6, none⟩ v6).setCell ⟨x, 7, none⟩ v7).setCell ⟨x, 8, none⟩ v8).cell? ⟨eb, k, none⟩ = some u :=
  far1 hne (far1 hne (far1 hne (far1 hne (far1 hne (far1 hne (far1 hne (far1 hne (far1 hne h))))))))
theorem copied9 {w : World} {x : Nat} {c0 c1 c2 c3 c4 c5 c6 c7 c8 v0 v1 v2 v3 v4 v5 v6 v7 v8 : Value} {t : TypeId} (h : w.heap[x]? = some (.cells #[c0, c1, c2, c3, c4, c5, c6, c7, c8] t)) :
    (((((((((w.setCell ⟨x, 0, none⟩ v0).setCell ⟨x, 1, none⟩ v1).setCell ⟨x, 2, none⟩ v2).setCell ⟨x, 3, none⟩ v3).setCell ⟨x, 4, none⟩ v4).setCell ⟨x, 5, none⟩ v5).setCell ⟨x, 6, none⟩ v6).setCell ⟨x, 7, none⟩ v7).setCell ⟨x, 8, none⟩ v8).heap[x]? = some (.cells #[v0, v1, v2, v3, v4, v5, v6, v7, v8] t) := by
  refine (heap_set_here (heap_set_here (heap_set_here (heap_set_here (heap_set_here (heap_set_here (heap_set_here (heap_set_here (heap_set_here h))))))))).trans ?_
  simp
theorem below9 {B : Nat} {w0 w : World} {x : Nat} {v0 v1 v2 v3 v4 v5 v6 v7 v8 : Value} (h : Below B w0 w) (hx : B ≤ x) :
    Below B w0 (((((((((w.setCell ⟨x, 0, none⟩ v0).setCell ⟨x, 1, none⟩ v1).setCell ⟨x, 2, none⟩ v2).setCell ⟨x, 3, none⟩ v3).setCell ⟨x, 4, none⟩ v4).setCell ⟨x, 5, none⟩ v5).setCell ⟨x, 6, none⟩ v6).setCell ⟨x, 7, none⟩ v7).setCell ⟨x, 8, none⟩ v8) :=
  (((((((((h.setCell hx _).setCell hx _).setCell hx _).setCell hx _).setCell hx _).setCell hx _).setCell hx _).setCell hx _).setCell hx _)
attribute [local go_sem ↓] Go.wp_at_zero Go.wp_at_succ
set_option maxHeartbeats 4000000 in
set_option maxRecDepth 100000 in
theorem fault_path (eb ty : Nat) (w : World) (hT : TagE w eb ty) (hS : StrC w ty) : Calls Tryz.prog 21 #[.iface 90 (.pointer (some ⟨eb, 0, none⟩))] w (FaultP 4 w) := by
  obtain ⟨c0, hc⟩ := hT
  obtain ⟨s1, c1⟩ := hc 1 (by decide) (by decide)
  obtain ⟨s2, c2⟩ := hc 2 (by decide) (by decide)
  obtain ⟨s3, c3⟩ := hc 3 (by decide) (by decide)
  obtain ⟨s4, c4⟩ := hc 4 (by decide) (by decide)
  have hl : eb < w.heap.size := lt_cell c0
  have q1 := fun (p : Option Addr) (w : World) => as86 90 (.inl rfl) p w
  have q2 := fun (p : Option Addr) (w : World) => as89 90 (.inl rfl) p w
  have q3 := as90
  obtain ⟨Z, hZ⟩ : ∃ Z : Obj, Z = .cells #[.int .i64 0, .int .i64 0, .string ⟨#[]⟩, .string ⟨#[]⟩, .string ⟨#[]⟩, .string ⟨#[]⟩, .string ⟨#[]⟩, .string ⟨#[]⟩, .string ⟨#[]⟩] 39 := ⟨_, rfl⟩
  have HC0 := Lib.hid c0
  have HC1 := Lib.hid c1
  have HC2 := Lib.hid c2
  have HC3 := Lib.hid c3
  have HC4 := Lib.hid c4
  have HS := Lib.hid hS
  have HZ := Lib.hid hZ
  clear hc c0 c1 c2 c3 c4 hS hZ
  go_enter Tryz.func21, Tryz.ntmps21
  go_upto_region 13 with fail
  obtain ⟨W, hW⟩ : ∃ W, W = w.alloc (.cells #[.int .i64 0, .int .i64 0, .string ⟨#[]⟩, .string ⟨#[]⟩, .string ⟨#[]⟩, .string ⟨#[]⟩, .string ⟨#[]⟩, .string ⟨#[]⟩, .string ⟨#[]⟩] 39) := ⟨_, rfl⟩
  have hbW : Below w.heap.size w W := by rw [hW]; exact (Below.refl _ _).alloc (Nat.le_refl _) _
  have e0 : W.heap[w.heap.size]? = some (.cells #[.int .i64 0, .int .i64 0, .string ⟨#[]⟩, .string ⟨#[]⟩, .string ⟨#[]⟩, .string ⟨#[]⟩, .string ⟨#[]⟩, .string ⟨#[]⟩, .string ⟨#[]⟩] 39) := by rw [hW]; exact heap_alloc_new w _
  rw [← hW]
  have hwl : w.heap.size < W.heap.size := by rw [hW]; simp
  have hne : w.heap.size ≠ eb := by omega
  have hne2 : eb ≠ w.heap.size := by omega
  have a0 := (World.cell?_of_block (hbW.block eb hl)).trans HC0.out
  have a1 := (World.cell?_of_block (hbW.block eb hl)).trans HC1.out
  have a2 := (World.cell?_of_block (hbW.block eb hl)).trans HC2.out
  have a3 := (World.cell?_of_block (hbW.block eb hl)).trans HC3.out
  have a4 := (World.cell?_of_block (hbW.block eb hl)).trans HC4.out
  have hlW : eb < W.heap.size := lt_cell a0
  have HE0 := Lib.hid e0
  have HBW := Lib.hid hbW
  have hcs := HS.out W.drew (hbW.trans ((below_drewN W 1).mono hbW.size))
  have HCS := Lib.hid hcs
  clear hW e0 hbW hcs HC0 HC1 HC2 HC3 HC4
  go_region_held3 (fun w' => w'.cell? ⟨eb, 0, none⟩ = some (.pointer (some ⟨ty, 0, none⟩)) ∧ w'.cell? ⟨eb, 1, none⟩ = some (.string s1) ∧ w'.cell? ⟨eb, 2, none⟩ = some (.string s2) ∧ w'.cell? ⟨eb, 3, none⟩ = some (.string s3) ∧ w'.cell? ⟨eb, 4, none⟩ = some (.string s4))
    (first | with_reducible exact ⟨far9 hne b0, far9 hne b1, far9 hne b2, far9 hne b3, far9 hne b4⟩ | with_reducible exact ⟨b0, b1, b2, b3, b4⟩ | exact ⟨a0, a1, a2, a3, a4⟩)
    (first | (go_at_call 27; (with_reducible refine HCS.out.mono ?_); rintro e w3 ⟨sx, rfl, hsx, hb3⟩; have b0 := (World.cell?_of_block (hb3.block eb hlW)).trans a0; have b1 := (World.cell?_of_block (hb3.block eb hlW)).trans a1; have b2 := (World.cell?_of_block (hb3.block eb hlW)).trans a2; have b3 := (World.cell?_of_block (hb3.block eb hlW)).trans a3; have b4 := (World.cell?_of_block (hb3.block eb hlW)).trans a4; have e3 := (hb3.block w.heap.size hwl).trans HE0.out; have z0 : w3.cell? ⟨w.heap.size, 0, none⟩ = some (.int .i64 0) := (by simp only [World.cell?, e3]; rfl); have z1 : w3.cell? ⟨w.heap.size, 1, none⟩ = some (.int .i64 0) := (by simp only [World.cell?, e3]; rfl); have z2 : w3.cell? ⟨w.heap.size, 2, none⟩ = some (.string ⟨#[]⟩) := (by simp only [World.cell?, e3]; rfl); have z3 : w3.cell? ⟨w.heap.size, 3, none⟩ = some (.string ⟨#[]⟩) := (by simp only [World.cell?, e3]; rfl); have z4 : w3.cell? ⟨w.heap.size, 4, none⟩ = some (.string ⟨#[]⟩) := (by simp only [World.cell?, e3]; rfl); have z5 : w3.cell? ⟨w.heap.size, 5, none⟩ = some (.string ⟨#[]⟩) := (by simp only [World.cell?, e3]; rfl); have z6 : w3.cell? ⟨w.heap.size, 6, none⟩ = some (.string ⟨#[]⟩) := (by simp only [World.cell?, e3]; rfl); have z7 : w3.cell? ⟨w.heap.size, 7, none⟩ = some (.string ⟨#[]⟩) := (by simp only [World.cell?, e3]; rfl); have z8 : w3.cell? ⟨w.heap.size, 8, none⟩ = some (.string ⟨#[]⟩) := (by simp only [World.cell?, e3]; rfl); have zf : ∀ k, w3.frozen? ⟨w.heap.size, k, none⟩ = false := (fun k => by simp only [World.frozen?, e3]; simp); have HE3 := Lib.hid e3; have HB3 := Lib.hid (HBW.out.trans ((below_of_drew hb3).mono HBW.out.size)); clear hb3 e3))
  all_goals
    go_wp2_with fail
    have hc := copied9 (v0 := .int .i64 4) (v1 := .int .i64 0) (v2 := .string ⟨#[]⟩) (v3 := .string ⟨#[]⟩) (v4 := .string sx) (v5 := .string s1) (v6 := .string s2) (v7 := .string s3) (v8 := .string s4) HE3.out
    refine bodyPost_ret (v := .agg #[.int .i64 4, .int .i64 0, .string ⟨#[]⟩, .string ⟨#[]⟩, .string sx, .string s1, .string s2, .string s3, .string s4]) ?_ rfl ⟨⟨0, _, _, _, _, _, _, _, rfl⟩, below9 HB3.out (Nat.le_refl _)⟩
    simp [results, Tryz.results21, go_sem, World.cell?, hc]
end Go.Proofs.YtnmgocbmofbppaaGreatDoor
namespace Go.Proofs.YtnmgocbmofbppaaGreatDoor
open Go.RowKit

/-- Each field's own rules satisfy Q. -/
def SfiAll (tg : ByteArray → ByteArray) (Q : Fi → Prop) (fs : List Fl) : Prop := ∀ f ∈ fs, ∀ (lk : Lk) (x : Fi), sfi tg lk f.name f.tag = some x → Q x
def TiAll (Q : Fi → Prop) (t : Ti) : Prop := (∀ x ∈ t.fs, Q x.fi) ∧ ∀ x, t.xn = some x → Q x.fi
section
variable {tg : ByteArray → ByteArray} {ex : ByteArray → Bool} {l : AL Ty} {Q : Fi → Prop}
theorem gtiStep_all {r : List Fl → Except Bool Ti} {i : Nat} {f : Fl} {acc acc' : Ti} (h : TiAll Q acc) (hf : ∀ (lk : Lk) (x : Fi), sfi tg lk f.name f.tag = some x → Q x)
    (hr : f.emb = true → (envT l f.name).kind = 13 → ∀ t, r (envT l f.name).fields = .ok t → TiAll Q t) (hs : gtiStep tg ex l r i f acc = .ok acc') : TiAll Q acc' := by
  unfold gtiStep at hs
  split at hs
  · injection hs with hs
    exact hs ▸ h
  · split at hs
    · rename_i hemb
      cases h1 : r (envT l f.name).fields with
      | error b => rw [h1] at hs; cases hs
      | ok inner =>
        have hi := hr hemb.1 hemb.2 inner h1
        rw [h1] at hs
        simp only at hs
        cases h4 : addAll acc.fs (inner.fs.map fun x => ⟨x.fi, i :: x.idx⟩) with
        | none => rw [h4] at hs; cases hs
        | some fs' =>
          rw [h4] at hs
          injection hs with hs
          subst hs
          refine ⟨fun x hx => ?_, fun x hx => ?_⟩
          · rcases (addAll_mem _ _ _ h4).1 x hx with h7 | h7
            · exact h.1 x h7
            · obtain ⟨y, hy, rfl⟩ := List.mem_map.1 h7
              exact hi.1 y hy
          · cases hx0 : acc.xn with
            | none =>
              have hx : (acc.xn.or inner.xn) = some x := hx
              rw [hx0] at hx
              exact hi.2 x (by simpa using hx)
            | some y =>
              have hx : (acc.xn.or inner.xn) = some x := hx
              rw [hx0] at hx
              simp at hx
              subst hx
              exact h.2 y hx0
    · cases h1 : sfi tg (lkOf tg (bare f.t l)) f.name f.tag with
      | none => rw [h1] at hs; cases hs
      | some fi =>
        have hq := hf _ _ h1
        rw [h1] at hs
        simp only at hs
        split at hs
        · injection hs with hs
          subst hs
          refine ⟨h.1, fun x hx => ?_⟩
          have hx : some (⟨fi, [i]⟩ : Fx) = some x := hx
          obtain rfl := Option.some.inj hx
          exact hq
        · cases h2 : addFx acc.fs ⟨fi, [i]⟩ with
          | none => rw [h2] at hs; cases hs
          | some fs' =>
            rw [h2] at hs
            injection hs with hs
            subst hs
            refine ⟨fun x hx => ?_, h.2⟩
            rcases (addFx_mem h2).1 x hx with h7 | h7
            · exact h.1 x h7
            · subst h7
              exact hq
theorem gtiGo_all {r : List Fl → Except Bool Ti} : ∀ (fs : List Fl) (i : Nat) (acc acc' : Ti), TiAll Q acc → SfiAll tg Q fs → (∀ f ∈ fs, f.emb = true → (envT l f.name).kind = 13 → ∀ t, r (envT l f.name).fields = .ok t → TiAll Q t) →
    gtiGo tg ex l r fs i acc = .ok acc' → TiAll Q acc'
  | [], i, acc, acc', h, _, _, e => by
    simp only [gtiGo] at e
    injection e with e
    exact e ▸ h
  | f :: fs, i, acc, acc', h, hf, hr, e => by
    simp only [gtiGo] at e
    cases h1 : gtiStep tg ex l r i f acc with
    | error b => rw [h1] at e; cases e
    | ok a2 =>
      rw [h1] at e
      exact gtiGo_all fs (i + 1) a2 acc' (gtiStep_all h (hf f (by simp)) (hr f (by simp)) h1) (fun g hg => hf g (by simp [hg])) (fun g hg => hr g (by simp [hg])) e
theorem gti_all (hE : ∀ s, (envT l s).kind = 13 → SfiAll tg Q (envT l s).fields) : ∀ {n : Nat} {fs : List Fl} {t : Ti}, SfiAll tg Q fs → gti tg ex l n fs = .ok t → TiAll Q t
  | 0, _, _, _, h => by cases h
  | n + 1, fs, t, hf, h => gtiGo_all fs 0 ⟨none, []⟩ t ⟨fun x hx => by simp at hx, fun x hx => by cases hx⟩ hf (fun f _ _ hk t' ht' => gti_all hE (hE _ hk) ht') h
end
/-- The path does not begin with an empty name. -/
def HeadQ (x : Fi) : Prop := ∀ y, x.parents[0]? = some y → y.toList ≠ []
theorem sfi_head {tg : ByteArray → ByteArray} {lk : Lk} {name tag : ByteArray} {x : Fi} (hn : name.size ≠ 0) (h : sfi tg lk name tag = some x) : HeadQ x := by
  have hnil : ∀ (a b : ByteArray) (f : Int), HeadQ ⟨a, b, f, []⟩ := fun a b f y e => by simp at e
  have hne : name.toList ≠ [] := fun e => hn (by
    rw [ByteArray.toList_eq] at e
    have := congrArg List.length e
    simpa using this)
  unfold sfi at h
  split at h
  · cases h
  · unfold sfi2 at h
    split at h
    · cases h
    · split at h
      · obtain rfl := Option.some.inj h
        exact hnil _ _ _
      · split at h
        · unfold lkFi at h
          split at h <;> (obtain rfl := Option.some.inj h; exact hnil _ _ _)
        · unfold sfiPath at h
          split at h
          · cases h
          · split at h
            · cases h
            · split at h
              · cases h
              · split at h
                · cases h
                · obtain rfl := Option.some.inj h
                  intro y hy
                  change (List.dropLast _)[0]? = some y at hy
                  unfold pathOf at hy
                  split at hy
                  · simp at hy
                  · rename_i p ps _
                    cases ps with
                    | nil => simp at hy
                    | cons q qs =>
                      simp at hy
                      subst hy
                      split
                      · exact hne
                      · rename_i hp
                        intro e
                        rw [e] at hp
                        exact hp rfl
theorem sfiAll_head {tg : ByteArray → ByteArray} {fs : List Fl} (h : ∀ f ∈ fs, f.name.size ≠ 0) : SfiAll tg HeadQ fs := fun f hf _ _ e => sfi_head (h f hf) e
end Go.Proofs.YtnmgocbmofbppaaGreatDoor
