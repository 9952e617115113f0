/- Fields: a type's rules as data. -/
import Derived.Test.YtnmgocbmofbppaaGreatDoorA25
import Derived.Test.YtnmgocbmofbppaaGreatDoorA27
import Derived.Test.YtnmgocbmofbppaaGreatDoorA28
import Derived.Test.YtnmgocbmofbppaaGreatDoorA33
import Derived.Deep.RegionHeldLaw
import Derived.Deep.RegionHeld3

set_option linter.unusedVariables false
set_option linter.unusedSimpArgs false

namespace Go.Proofs.YtnmgocbmofbppaaGreatDoor
open Go.RowKit

/-- 6 stores into one block. -/
abbrev put6 (w : World) (x : Nat) (a0 a1 a2 a3 a4 a5 : Value) : World := ((((((w.setCell ⟨x, 0, none⟩ a0).setCell ⟨x, 1, none⟩ a1).setCell ⟨x, 2, none⟩ a2).setCell ⟨x, 3, none⟩ a3).setCell ⟨x, 4, none⟩ a4).setCell ⟨x, 5, none⟩ a5)
theorem put6_at {w : World} {x : Nat} {o0 o1 o2 o3 o4 o5 : Value} {t : TypeId} (a0 a1 a2 a3 a4 a5 : Value) (h : w.heap[x]? = some (.cells #[o0, o1, o2, o3, o4, o5] t)) :
    (put6 w x a0 a1 a2 a3 a4 a5).heap[x]? = some (.cells #[a0, a1, a2, a3, a4, a5] t) ∧ Ext (fun k => k = x) w (put6 w x a0 a1 a2 a3 a4 a5) := by
  refine ⟨?_, ?_⟩
  · refine (heap_set_here (heap_set_here (heap_set_here (heap_set_here (heap_set_here (heap_set_here h)))))).trans ?_
    simp
  · exact ((((((Ext.setCell (S := fun k => k = x) w (a := ⟨x, 0, none⟩) rfl a0).trans (Ext.setCell (S := fun k => k = x) _ (a := ⟨x, 1, none⟩) rfl a1)).trans (Ext.setCell (S := fun k => k = x) _ (a := ⟨x, 2, none⟩) rfl a2)).trans (Ext.setCell (S := fun k => k = x) _ (a := ⟨x, 3, none⟩) rfl a3)).trans (Ext.setCell (S := fun k => k = x) _ (a := ⟨x, 4, none⟩) rfl a4)).trans (Ext.setCell (S := fun k => k = x) _ (a := ⟨x, 5, none⟩) rfl a5))
/-- 9 stores into one block. -/
abbrev put9 (w : World) (x : Nat) (a0 a1 a2 a3 a4 a5 a6 a7 a8 : Value) : World := (((((((((w.setCell ⟨x, 0, none⟩ a0).setCell ⟨x, 1, none⟩ a1).setCell ⟨x, 2, none⟩ a2).setCell ⟨x, 3, none⟩ a3).setCell ⟨x, 4, none⟩ a4).setCell ⟨x, 5, none⟩ a5).setCell ⟨x, 6, none⟩ a6).setCell ⟨x, 7, none⟩ a7).setCell ⟨x, 8, none⟩ a8)
theorem put9_at {w : World} {x : Nat} {o0 o1 o2 o3 o4 o5 o6 o7 o8 : Value} {t : TypeId} (a0 a1 a2 a3 a4 a5 a6 a7 a8 : Value) (h : w.heap[x]? = some (.cells #[o0, o1, o2, o3, o4, o5, o6, o7, o8] t)) :
    (put9 w x a0 a1 a2 a3 a4 a5 a6 a7 a8).heap[x]? = some (.cells #[a0, a1, a2, a3, a4, a5, a6, a7, a8] t) ∧ Ext (fun k => k = x) w (put9 w x a0 a1 a2 a3 a4 a5 a6 a7 a8) := by
  refine ⟨?_, ?_⟩
  · refine (heap_set_here (heap_set_here (heap_set_here (heap_set_here (heap_set_here (heap_set_here (heap_set_here (heap_set_here (heap_set_here h))))))))).trans ?_
    simp
  · exact (((((((((Ext.setCell (S := fun k => k = x) w (a := ⟨x, 0, none⟩) rfl a0).trans (Ext.setCell (S := fun k => k = x) _ (a := ⟨x, 1, none⟩) rfl a1)).trans (Ext.setCell (S := fun k => k = x) _ (a := ⟨x, 2, none⟩) rfl a2)).trans (Ext.setCell (S := fun k => k = x) _ (a := ⟨x, 3, none⟩) rfl a3)).trans (Ext.setCell (S := fun k => k = x) _ (a := ⟨x, 4, none⟩) rfl a4)).trans (Ext.setCell (S := fun k => k = x) _ (a := ⟨x, 5, none⟩) rfl a5)).trans (Ext.setCell (S := fun k => k = x) _ (a := ⟨x, 6, none⟩) rfl a6)).trans (Ext.setCell (S := fun k => k = x) _ (a := ⟨x, 7, none⟩) rfl a7)).trans (Ext.setCell (S := fun k => k = x) _ (a := ⟨x, 8, none⟩) rfl a8))
theorem arr_of {nvs : Array Value} {l : List Value} (h : nvs.toList = l) : nvs = l.toArray := by subst h; simp
theorem cells5 {w : World} {x : Nat} {a0 a1 a2 a3 a4 : Value} {t : TypeId} (h : w.heap[x]? = some (.cells #[a0, a1, a2, a3, a4] t)) :
    w.cell? ⟨x, 0, none⟩ = some a0 ∧ w.cell? ⟨x, 1, none⟩ = some a1 ∧ w.cell? ⟨x, 2, none⟩ = some a2 ∧ w.cell? ⟨x, 3, none⟩ = some a3 ∧ w.cell? ⟨x, 4, none⟩ = some a4 ∧ ∀ j, w.frozen? ⟨x, j, none⟩ = false := by
  refine ⟨?_, ?_, ?_, ?_, ?_, fun j => ?_⟩
  · simp only [World.cell?, h]; rfl
  · simp only [World.cell?, h]; rfl
  · simp only [World.cell?, h]; rfl
  · simp only [World.cell?, h]; rfl
  · simp only [World.cell?, h]; rfl
  · simp only [World.frozen?, h]; simp
theorem cells6 {w : World} {x : Nat} {a0 a1 a2 a3 a4 a5 : Value} {t : TypeId} (h : w.heap[x]? = some (.cells #[a0, a1, a2, a3, a4, a5] t)) :
    w.cell? ⟨x, 0, none⟩ = some a0 ∧ w.cell? ⟨x, 1, none⟩ = some a1 ∧ w.cell? ⟨x, 2, none⟩ = some a2 ∧ w.cell? ⟨x, 3, none⟩ = some a3 ∧ w.cell? ⟨x, 4, none⟩ = some a4 ∧ w.cell? ⟨x, 5, none⟩ = some a5 ∧ ∀ j, w.frozen? ⟨x, j, none⟩ = false := by
  refine ⟨?_, ?_, ?_, ?_, ?_, ?_, fun j => ?_⟩
  · simp only [World.cell?, h]; rfl
  · simp only [World.cell?, h]; rfl
  · simp only [World.cell?, h]; rfl
  · simp only [World.cell?, h]; rfl
  · simp only [World.cell?, h]; rfl
  · simp only [World.cell?, h]; rfl
  · simp only [World.frozen?, h]; simp
theorem cells9 {w : World} {x : Nat} {a0 a1 a2 a3 a4 a5 a6 a7 a8 : Value} {t : TypeId} (h : w.heap[x]? = some (.cells #[a0, a1, a2, a3, a4, a5, a6, a7, a8] t)) :
    w.cell? ⟨x, 0, none⟩ = some a0 ∧ w.cell? ⟨x, 1, none⟩ = some a1 ∧ w.cell? ⟨x, 2, none⟩ = some a2 ∧ w.cell? ⟨x, 3, none⟩ = some a3 ∧ w.cell? ⟨x, 4, none⟩ = some a4 ∧ w.cell? ⟨x, 5, none⟩ = some a5 ∧ w.cell? ⟨x, 6, none⟩ = some a6 ∧ w.cell? ⟨x, 7, none⟩ = some a7 ∧ w.cell? ⟨x, 8, none⟩ = some a8 ∧ ∀ j, w.frozen? ⟨x, j, none⟩ = false := by
  refine ⟨?_, ?_, ?_, ?_, ?_, ?_, ?_, ?_, ?_, fun j => ?_⟩
  · simp only [World.cell?, h]; rfl
  · simp only [World.cell?, h]; rfl
  · simp only [World.cell?, h]; rfl
  · simp only [World.cell?, h]; rfl
  · simp only [World.cell?, h]; rfl
  · simp only [World.cell?, h]; rfl
  · simp only [World.cell?, h]; rfl
  · simp only [World.cell?, h]; rfl
  · simp only [World.cell?, h]; rfl
  · simp only [World.frozen?, h]; simp
theorem heap_alloc_at {w : World} {n : Nat} (h : w.heap.size = n) (o : Obj) : (w.alloc o).heap[n]? = some o := by
  subst h
  exact heap_alloc_new w o
/-- Fields' results. -/
theorem res16 {W : World} {X Y : Nat} {b0 b1 b2 b3 b4 b5 c0 c1 c2 c3 c4 c5 c6 c7 c8 : Value} (tmps : Array Value) (hX : W.heap[X]? = some (.cells #[b0, b1, b2, b3, b4, b5] 37)) (hY : W.heap[Y]? = some (.cells #[c0, c1, c2, c3, c4, c5, c6, c7, c8] 39))
    (h5 : tmps.getD 5 undef = .pointer (some ⟨X, 0, none⟩)) (h7 : tmps.getD 7 undef = .pointer (some ⟨Y, 0, none⟩)) :
    (results Tryz.f16 tmps).run Tryz.prog W = .ok (.tuple #[tmps.getD 4 undef, .agg #[b0, b1, b2, b3, b4, b5], tmps.getD 6 undef, .agg #[c0, c1, c2, c3, c4, c5, c6, c7, c8], tmps.getD 8 undef, tmps.getD 9 undef]) W := by
  simp only [Array.getD_eq_getD_getElem?] at h5 h7
  simp [results, Tryz.results16, go_sem, World.cell?, hX, hY, h5, h7]
/-- What is said of a field, as data. -/
def InfV (w : World) (vs : List Value) (x : Fx) : Prop := ∃ pv iv, vs = [.string x.fi.xmlns, .string x.fi.name, pv, .int .i64 (modeI (bits .and .i64 x.fi.flags 127)), .bool (bits .and .i64 x.fi.flags 128 != 0), iv] ∧ ParV w pv x.fi.parents ∧ IdxV w iv x.idx ∧ x.idx.length ≤ 1000000 ∧ x.fi.parents.length ≤ 1000000
def InfSh (vs : List Value) : Prop := ∃ (a b : ByteArray) (A : Option Addr) (n c : Nat) (m : Int) (o : Bool) (I : Option Addr) (k d : Nat), vs = [.string a, .string b, .slice A n c, .int .i64 m, .bool o, .slice I k d]
theorem InfV.keep {w w' : World} {vs : List Value} {x : Fx} (h : InfV w vs x) (hb : ∀ b, b < w.heap.size → w'.heap[b]? = w.heap[b]?) : InfV w' vs x := by
  obtain ⟨pv, iv, h1, h2, h3, h4⟩ := h
  exact ⟨pv, iv, h1, h2.keep hb, h3.keep hb, h4⟩
/-- What ZZFields says, as data. -/
theorem ZzV.inf {w : World} {qa qb : ByteArray} {qA : Option Addr} {qn qc : Nat} {qf : Int} {qI : Option Addr} {qm qd : Nat} {x : Fx} (h : ZzV w [.string qa, .string qb, .slice qA qn qc, .int .i64 qf, .slice qI qm qd] x) :
    InfV w [.string qa, .string qb, .slice qA qn qc, .int .i64 (modeI (bits .and .i64 qf 127)), .bool (bits .and .i64 qf 128 != 0), .slice qI qm qd] x := by
  obtain ⟨pv, iv, h1, h2, h3, h4⟩ := h
  injection h1 with e1 h1
  injection h1 with e2 h1
  injection h1 with e3 h1
  injection h1 with e4 h1
  injection h1 with e5 _
  injection e4 with _ e4
  subst e3 e4 e5
  exact ⟨_, _, by rw [e1, e2], h2, h3, h4⟩
theorem InfV.keepBox {w w' : World} {vs : List Value} {x : Fx} {X : Nat} (h : InfV w vs x) (hq : HeadQ x.fi) (h0 : w.cell? ⟨X, 0, none⟩ = some (.string ⟨#[]⟩)) (hb : ∀ b, b < w.heap.size → b ≠ X → w'.heap[b]? = w.heap[b]?) : InfV w' vs x := by
  obtain ⟨pv, iv, h1, h2, h3, h4⟩ := h
  have hz : ZzV w [.string x.fi.xmlns, .string x.fi.name, pv, .int .i64 x.fi.flags, iv] x := ⟨pv, iv, rfl, h2, h3, h4⟩
  obtain ⟨pv', iv', e1, k2, k3, k4⟩ := hz.keepBox (w' := w') hq h0 hb
  injection e1 with _ e1
  injection e1 with _ e1
  injection e1 with e3 e1
  injection e1 with _ e1
  injection e1 with e5 _
  subst e3 e5
  exact ⟨pv, iv, h1, k2, k3, k4⟩
theorem InfV.len {w : World} {vs : List Value} {x : Fx} (h : InfV w vs x) : vs.length = 6 := by
  obtain ⟨pv, iv, rfl, _⟩ := h
  rfl
theorem flat_at6 : ∀ (vss : List (List Value)) (i k : Nat) (vs : List Value) (u : Value), (∀ ws ∈ vss, ws.length = 6) → vss[i]? = some vs → vs[k]? = some u → (flat vss)[i * 6 + k]? = some u
  | [], _, _, _, _, _, h, _ => by simp at h
  | ws :: vss, 0, k, vs, u, hl, h, hk => by
    simp at h
    subst h
    have hk' : k < ws.length := (List.getElem?_eq_some_iff.1 hk).1
    simp only [flat, List.flatten_cons, Nat.zero_mul, Nat.zero_add]
    rw [List.getElem?_append_left hk']
    exact hk
  | ws :: vss, i + 1, k, vs, u, hl, h, hk => by
    have hw : ws.length = 6 := hl ws (by simp)
    have ih := flat_at6 vss i k vs u (fun x hx => hl x (by simp [hx])) (by simpa using h) hk
    simp only [flat, List.flatten_cons]
    rw [List.getElem?_append_right (by omega), hw, show (i + 1) * 6 + k - 6 = i * 6 + k by omega]
    exact ih
theorem info37 : (Tryz.prog.info? 37).map (fun i => (i.zero, i.size, i.bytes)) = some (some (.agg #[.string ⟨#[]⟩, .string ⟨#[]⟩, .slice none 0 0, .int .i64 0, .bool false, .slice none 0 0]), 6, 96) := by kernel_rfl
/-- The rows of what Fields says. -/
def RowsI (w : World) (A : Option Addr) (fs : List Fx) : Prop := ∀ (i : Nat) (x : Fx), fs[i]? = some x → ∃ g vs, A = some ⟨g, 0, none⟩ ∧ InfV w vs x ∧ ∀ (k : Nat) (u : Value), vs[k]? = some u → w.cell? ⟨g, i * 6 + k, none⟩ = some u
theorem rowsI_of {V W : World} {base n : Nat} {v : Value} {vss : List (List Value)} {fs : List Fx} (hown : V.ownsRow base 37 6 v n (flat vss)) (hl : vss.length = n) (hn : fs.length = n) (hz : ∀ (i : Nat) (vs : List Value) (x : Fx), vss[i]? = some vs → fs[i]? = some x → InfV W vs x)
    (hk : ∀ b, base ≤ b → b < V.heap.size → W.heap[b]? = V.heap[b]?) : ∃ A cap, v = .slice A n cap ∧ RowsI W A fs := by
  have hl6 : ∀ ws ∈ vss, ws.length = 6 := by
    intro ws hw
    obtain ⟨i, hi, rfl⟩ := List.mem_iff_getElem.1 hw
    exact (hz i _ _ (List.getElem?_eq_getElem hi) (List.getElem?_eq_getElem (by omega : i < fs.length))).len
  rcases hown.2 with ⟨hv, hn0⟩ | ⟨g, cap, cur, hv, hb, hg, _, _, hcs, htk⟩
  · subst hn0
    refine ⟨none, 0, hv, fun i x e => ?_⟩
    have := (List.getElem?_eq_some_iff.1 e).1
    omega
  · refine ⟨some ⟨g, 0, none⟩, cap, hv, fun i x e => ?_⟩
    have hi : i < vss.length := by
      have := (List.getElem?_eq_some_iff.1 e).1
      omega
    have hvi : vss[i]? = some vss[i] := List.getElem?_eq_getElem hi
    refine ⟨g, vss[i], rfl, hz i _ x hvi e, fun k u hu => ?_⟩
    have hgl : g < V.heap.size := by
      rcases Nat.lt_or_ge g V.heap.size with h | h
      · exact h
      · rw [Array.getElem?_eq_none h] at hg; cases hg
    rw [World.cell?_of_block (hk g hb hgl)]
    have hf := flat_at6 vss i k _ u hl6 hvi hu
    rw [← htk, List.getElem?_take] at hf
    split at hf
    · simp only [World.cell?, hg]
      simpa using hf
    · cases hf
abbrev zInf : Array Value := #[.string ⟨#[]⟩, .string ⟨#[]⟩, .slice none 0 0, .int .i64 0, .bool false, .slice none 0 0]
abbrev zFau : Array Value := #[.int .i64 0, .int .i64 0, .string ⟨#[]⟩, .string ⟨#[]⟩, .string ⟨#[]⟩, .string ⟨#[]⟩, .string ⟨#[]⟩, .string ⟨#[]⟩, .string ⟨#[]⟩]
/-- What Fields leaves, of a struct. -/
structure FiePost (tg : ByteArray → ByteArray) (U : Lib.RTab) (c : Prop) (w : World) (l : AL Ty) (T : Ty) (e : Ending) (w' : World) : Prop where
  ext : Ext (fun _ => False) w w'
  res : (e = .returned (.tuple #[.slice none 0 0, .agg zInf, .bool false, .agg zFau, .bool false, .bool true]) ∧ ¬ (c ∧ l = [])) ∨
    ∃ n d, d ≤ 1000000 ∧ Cn l n (fsOf l T) d ∧ (∀ s, (envT l s).kind = 13 → (∀ f ∈ (envT l s).fields, embOk f) ∧ ((envT l s).fields.map Fl.name).Nodup) ∧ (∀ f ∈ fsOf l T, embOk f) ∧ ((fsOf l T).map Fl.name).Nodup ∧
      (∀ b, gti tg (exOf U) l n (fsOf l T) = .error b → ∃ (ln : Int) (m t s f1 t1 f2 t2 : ByteArray), e = .returned (.tuple #[.slice none 0 0, .agg zInf, .bool false, .agg #[.int .i64 (if b then 4 else 7), .int .i64 ln, .string m, .string t, .string s, .string f1, .string t1, .string f2, .string t2], .bool false, .bool false])) ∧
      ∀ t, gti tg (exOf U) l n (fsOf l T) = .ok t → ∃ A cap nvs, e = .returned (.tuple #[.slice A t.fs.length cap, .agg nvs, .bool t.xn.isSome, .agg zFau, .bool true, .bool false]) ∧ RowsI w' A t.fs ∧ InfSh nvs.toList ∧ ∀ x, t.xn = some x → InfV w' nvs.toList x
set_option maxHeartbeats 16000000 in
set_option maxRecDepth 100000 in
theorem Fields_any {tg : ByteArray → ByteArray} {U : Lib.RTab} {B : Nat} {c : Prop} (hTg : TagC tg B) (l : AL Ty) (A : Option Addr) (ca : Nat) (T : Ty) (cs : List Value) (w : World) (hB : B ≤ w.heap.size) (hU : Uni U B w) (hTb : Tabs B w) (hE : EofC B w) (hs : NdSz l) (hT : TyV w (· < B) T cs) (hwf : T.wf) (hsz : NdOk l → T.sz ≤ 2000) (hk : StrK l T)
    (hTy : ∀ w', Below w.heap.size w w' → Calls Tryz.prog 19 #[.slice A l.length ca, .agg cs.toArray] w' (TypePost c w' l T)) : Calls Tryz.prog 16 #[.slice A l.length ca, .agg cs.toArray] w (FiePost tg U c w l T) := by
  have hT0 := hT
  obtain ⟨A0, ca0, D0, cd0, rfl, hbig⟩ := hT0.open_
  have HU := Lib.hid hU
  have HTB := Lib.hid hTb
  have HE := Lib.hid hE
  have HT := Lib.hid hT
  have HS := Lib.hid hs
  have HTY := Lib.hid hTy
  clear hU hTb hE hT hT0 hs hTy
  go_enter Tryz.func16, Tryz.ntmps16
  go_upto_region 0 with fail
  go_cut [3, 4, 5, 6, 7, 8, 9] (fun s3 s4 s5 s6 s7 s8 s9 wx => s3 = .pointer (some ⟨w.heap.size, 0, none⟩) ∧ s4 = .slice none 0 0 ∧ s5 = .pointer (some ⟨w.heap.size + 1, 0, none⟩) ∧ s6 = .bool false ∧ s7 = .pointer (some ⟨w.heap.size + 1 + 1, 0, none⟩) ∧ s8 = .bool false ∧ s9 = .bool false ∧ Below w.heap.size w wx ∧ wx.heap[w.heap.size]? = some (.cells #[.int .i64 T.kind, .int .i64 T.n, .string T.s, .slice A0 T.of.length ca0, .slice D0 T.fields.length cd0] 26) ∧ wx.heap[w.heap.size + 1]? = some (.cells zInf 37) ∧ wx.heap[w.heap.size + 1 + 1]? = some (.cells zFau 39))
  case first =>
    go_wp2
    go_meet
    have e1 : ∀ (w : World) (o : Obj), (w.alloc o).heap.size = w.heap.size + 1 := fun w o => by simp
    refine ⟨rfl, rfl, rfl, rfl, rfl, rfl, rfl, (((Below.refl _ _).alloc (Nat.le_refl _) _).alloc (by simp) _).alloc (by simp; omega) _, ?_, ?_, ?_⟩
    · rw [Below.heap_alloc _ _ _ (by simp; omega), Below.heap_alloc _ _ _ (by simp), heap_alloc_new]
    · rw [Below.heap_alloc _ _ _ (by simp)]
      exact heap_alloc_at (by simp) _
    · exact heap_alloc_at (by simp) _
  case rest =>
    obtain ⟨rfl, rfl, rfl, rfl, rfl, rfl, rfl, hb1, hbx, hbi, hbf⟩ := hcut
    have hty := HTY.out wc hb1
    have g0 : wc.cell? ⟨w.heap.size, 0, none⟩ = some (.int .i64 T.kind) := by simp only [World.cell?, hbx]; rfl
    have g1 : wc.cell? ⟨w.heap.size, 1, none⟩ = some (.int .i64 T.n) := by simp only [World.cell?, hbx]; rfl
    have g2 : wc.cell? ⟨w.heap.size, 2, none⟩ = some (.string T.s) := by simp only [World.cell?, hbx]; rfl
    have g3 : wc.cell? ⟨w.heap.size, 3, none⟩ = some (.slice A0 T.of.length ca0) := by simp only [World.cell?, hbx]; rfl
    have g4 : wc.cell? ⟨w.heap.size, 4, none⟩ = some (.slice D0 T.fields.length cd0) := by simp only [World.cell?, hbx]; rfl
    have HC := Lib.hid hty
    have HB1 := Lib.hid hb1
    have HBI := Lib.hid hbi
    have HBF := Lib.hid hbf
    clear hty hb1 hbx hbi hbf HTY
    go_upto_region 2 with (go_at_call 19; refine HC.out.mono ?_; rintro e w2 ⟨p, q, nn, k, rfl, hx2, hc2, h2⟩)
    have hsz1 : w.heap.size + 1 + 1 < wc.heap.size := by
      rcases Nat.lt_or_ge (w.heap.size + 1 + 1) wc.heap.size with h | h
      · exact h
      · have := HBF.out
        rw [Array.getElem?_eq_none h] at this
        cases this
    have hbi2 : w2.heap[w.heap.size + 1]? = some (.cells zInf 37) := (hx2.block _ (by omega) (fun e => e)).trans HBI.out
    have hbf2 : w2.heap[w.heap.size + 1 + 1]? = some (.cells zFau 39) := (hx2.block _ hsz1 (fun e => e)).trans HBF.out
    have hxw : Ext (fun _ => False) w w2 := (Ext.of_below (S := fun _ => False) HB1.out).trans hx2
    have hs2 := hx2.size
    have HX2 := Lib.hid hx2
    have HXW := Lib.hid hxw
    have HBI2 := Lib.hid hbi2
    have HBF2 := Lib.hid hbf2
    have HC2 := Lib.hid hc2
    have HH2 := Lib.hid h2
    have i0 : w2.cell? ⟨w.heap.size + 1, 0, none⟩ = some (.string ⟨#[]⟩) := by simp only [World.cell?, hbi2]; rfl
    have i1 : w2.cell? ⟨w.heap.size + 1, 1, none⟩ = some (.string ⟨#[]⟩) := by simp only [World.cell?, hbi2]; rfl
    have i2 : w2.cell? ⟨w.heap.size + 1, 2, none⟩ = some (.slice none 0 0) := by simp only [World.cell?, hbi2]; rfl
    have i3 : w2.cell? ⟨w.heap.size + 1, 3, none⟩ = some (.int .i64 0) := by simp only [World.cell?, hbi2]; rfl
    have i4 : w2.cell? ⟨w.heap.size + 1, 4, none⟩ = some (.bool false) := by simp only [World.cell?, hbi2]; rfl
    have i5 : w2.cell? ⟨w.heap.size + 1, 5, none⟩ = some (.slice none 0 0) := by simp only [World.cell?, hbi2]; rfl
    have f0 : w2.cell? ⟨w.heap.size + 1 + 1, 0, none⟩ = some (.int .i64 0) := by simp only [World.cell?, hbf2]; rfl
    have f1 : w2.cell? ⟨w.heap.size + 1 + 1, 1, none⟩ = some (.int .i64 0) := by simp only [World.cell?, hbf2]; rfl
    have fk : ∀ j, 2 ≤ j → j < 9 → w2.cell? ⟨w.heap.size + 1 + 1, j, none⟩ = some (.string ⟨#[]⟩) := fun j q1 q2 => by
      obtain rfl | rfl | rfl | rfl | rfl | rfl | rfl : j = 2 ∨ j = 3 ∨ j = 4 ∨ j = 5 ∨ j = 6 ∨ j = 7 ∨ j = 8 := by omega
      all_goals (simp only [World.cell?, hbf2]; rfl)
    have f2 := fk 2 (by decide) (by decide)
    have f3 := fk 3 (by decide) (by decide)
    have f4 := fk 4 (by decide) (by decide)
    have f5 := fk 5 (by decide) (by decide)
    have f6 := fk 6 (by decide) (by decide)
    have f7 := fk 7 (by decide) (by decide)
    have f8 := fk 8 (by decide) (by decide)
    have z1 : ∀ j, w2.frozen? ⟨w.heap.size + 1, j, none⟩ = false := fun j => by simp only [World.frozen?, hbi2]; simp
    have z2 : ∀ j, w2.frozen? ⟨w.heap.size + 1 + 1, j, none⟩ = false := fun j => by simp only [World.frozen?, hbf2]; simp
    clear hx2 hxw hbi2 hbf2 hc2 h2 fk HC HBI HBF HB1 g0 g1 g2 g3 g4
    cases k with
    | false =>
      go_wp2
      obtain ⟨p1, p2⟩ := put6_at (.string ⟨#[]⟩) (.string ⟨#[]⟩) (.slice none 0 0) (.int .i64 0) (.bool false) (.slice none 0 0) HBI2.out
      obtain ⟨q1, q2⟩ := put9_at (.int .i64 0) (.int .i64 0) (.string ⟨#[]⟩) (.string ⟨#[]⟩) (.string ⟨#[]⟩) (.string ⟨#[]⟩) (.string ⟨#[]⟩) (.string ⟨#[]⟩) (.string ⟨#[]⟩) ((p2.block _ (by omega) (by omega)).trans HBF2.out)
      have p1' := (q2.block (w.heap.size + 1) (by have := p2.size; omega) (by omega)).trans p1
      refine bodyPost_ret (res16 _ p1' q1 rfl rfl) rfl ?_
      refine ⟨ext_step (ext_step HXW.out p2 (fun i hi => by omega)) q2 (fun i hi => by omega), .inl ⟨rfl, fun hc => ?_⟩⟩
      have := HC2.out hc.1 hc.2
      cases this
    | true =>
      obtain ⟨am, n0, y, hn0, rfl, hg, hr, hw⟩ := HH2.out rfl
      have hsz := hsz hg.ok
      have hR := ready_of hg HS.out hr hwf hsz hw hk
      obtain ⟨n, d, hd, hcn⟩ := hR.cn
      have hyl : y < w2.heap.size := lt_cell hR.c0
      have hyn : n0 ≤ y := by
        rcases hk with hk | ⟨hk, hk2⟩
        · obtain ⟨k, n, s, of, fs⟩ := T
          obtain rfl : k = 13 := hk
          unfold RT at hr
          rw [if_neg (by decide)] at hr
          exact hr.1.1
        · obtain ⟨k, n, s, of, fs⟩ := T
          obtain rfl : k = 14 := hk
          unfold RT at hr
          rw [if_pos rfl] at hr
          exact (hg.new _ _ hr).1
      have hbw : Below B w w2 := HXW.out.below (fun _ e => e.elim) hB
      have hB2 : B ≤ w2.heap.size := by have := HXW.out.size; omega
      have hzz := zz_any (tg := tg) (ex := exOf U) (n0 := n0) (am := am) (ok := fun _ => False) n (fsOf l T) y d w2 hcn hd hyl (fun b ⟨s, e⟩ => (hg.new s b e).2)
        (fun t e => gti_all (fun s h => sfiAll_head fun f hf => ((hR.emb s h).1 f hf).1) (sfiAll_head fun f hf => (hR.fds.emb f hf).1) e)
        (fun w' hb => gti_any hTg HS.out n (fsOf l T) T y d w' (fun _ => False) hcn hd (hg.gnm.keep (Ext.of_below hb)) (HTB.out.keep (hbw.trans (hb.mono hB2))) (HU.out.keep (hbw.trans (hb.mono hB2))) (by omega) (Nat.le_trans hB2 hb.size) (hR.fds.keep hb)
          ((World.cell?_of_block (hb.block y hyl)).trans hR.c0) (by obtain ⟨m, h1, h2⟩ := hR.c6; exact ⟨m, (World.cell?_of_block (hb.block y hyl)).trans h1, h2⟩) hwf hsz (hr.fkeep (Ext.of_below hb))
          ⟨(hR.nil.keep (hb.block y hyl)).2, .inl (hR.nil.keep (hb.block y hyl)).1⟩ hR.name ((hg.keep (Ext.of_below hb)).infoAll tg (exOf U)) (fun _ e => e.elim))
      have hnS : ∀ b, (Nm am b ∨ b = y) → wc.heap.size ≤ b := fun b hb => by
        rcases hb with ⟨s, hb⟩ | rfl
        · have := (hg.new s b hb).1; omega
        · omega
      have HZ := Lib.hid hzz
      have HG := Lib.hid hg
      have HRD := Lib.hid hR
      have HRT := Lib.hid hr
      have HNS := Lib.hid hnS
      have HCN := Lib.hid hcn
      have hwc : w.heap.size ≤ wc.heap.size := by omega
      clear hzz hg hR hr hnS hcn HH2 HC2 HT f0 f1 f2 f3 f4 f5 f6 f7 f8 i0 i1 i2 i3 i4 i5 z1 z2 hw
      cases hgt : gti tg (exOf U) l n (fsOf l T) with
      | error b =>
        go_upto_region 6 with (go_at_call 20; refine HZ.out.mono ?_; rintro e w3 hp; obtain ⟨hnx, ev, nvs, rfl, ⟨qa, qb, qA, qn, qc, qf, qI, qm, qd, hl⟩, hev⟩ := hp.err b hgt; obtain rfl := arr_of hl; clear hp hl; obtain ⟨kk, eb, rfl⟩ := hev.form)
        have hbi3 : w3.heap[w.heap.size + 1]? = some (.cells zInf 37) := (hnx.ext.block _ (by omega) (fun h => by have := HNS.out _ (.inl h); omega)).trans HBI2.out
        have hbf3 : w3.heap[w.heap.size + 1 + 1]? = some (.cells zFau 39) := (hnx.ext.block _ (by omega) (fun h => by have := HNS.out _ (.inl h); omega)).trans HBF2.out
        have hx3 : Ext (fun _ => False) w w3 := ext_step HXW.out hnx.ext (fun i hi => by have := HNS.out _ (.inl hi); omega)
        have hs3 := hnx.ext.size
        obtain ⟨W4, hW4⟩ : ∃ W4, W4 = w3.alloc (.cells #[.string qa, .string qb, .slice qA qn qc, .int .i64 qf, .slice qI qm qd] 60) := ⟨_, rfl⟩
        have hb4 : Below w3.heap.size w3 W4 := by rw [hW4]; exact (Below.refl _ _).alloc (Nat.le_refl _) _
        rw [← hW4]
        clear hW4
        have hx4 : Ext (fun _ => False) w W4 := hx3.trans (Ext.of_below hb4)
        have hbw4 : Below B w W4 := hx4.below (fun _ e => e.elim) hB
        have hs4 := hb4.size
        have hft : Calls Tryz.prog 21 #[.iface kk (.pointer (some ⟨eb, 0, none⟩))] W4 (FaultP (if b then 4 else 7) W4) := by
          obtain ⟨eb', h1, h2⟩ := hev
          cases b with
          | true =>
            obtain ⟨h3, ty, T', hT1, hw1, hs1, hr1⟩ := h2
            injection h3 with h3 h4
            injection h4 with h4
            injection h4 with h4
            injection h4 with h4
            subst h3 h4
            have hg3 : GNm n0 w3 am l := HG.out.gnm.keepX hnx
            refine fault_path eb ty W4 ⟨(World.cell?_of_block (hb4.block eb (lt_cell hT1.1))).trans hT1.1, fun k q1 q2 => ?_⟩ (StrC_of (hg3.keep (Ext.of_below hb4)) (HTB.out.keep hbw4) (by omega) hw1 hs1 (hr1.fkeep (Ext.of_below hb4)))
            obtain ⟨s, hs⟩ := hT1.2 k q1 q2
            exact ⟨s, (World.cell?_of_block (hb4.block eb (lt_cell hs))).trans hs⟩
          | false =>
            obtain ⟨h3, s, hs⟩ := h2
            injection h3 with h3 h4
            injection h4 with h4
            injection h4 with h4
            injection h4 with h4
            subst h3 h4
            exact fault_other eb s W4 (by omega) ((World.cell?_of_block (hb4.block eb (lt_cell hs))).trans hs) (HE.out.keep hbw4)
        have hbi4 := (hb4.block (w.heap.size + 1) (by omega)).trans hbi3
        have hbf4 := (hb4.block (w.heap.size + 1 + 1) (by omega)).trans hbf3
        obtain ⟨fc, hfc⟩ : ∃ fc : Int, (if b = true then 4 else 7) = fc := ⟨_, rfl⟩
        rw [hfc] at hft
        have HFC := Lib.hid hfc
        have HFT := Lib.hid hft
        clear hfc
        have HX4 := Lib.hid hx4
        have HBI4 := Lib.hid hbi4
        have HBF4 := Lib.hid hbf4
        clear hft hx4 hbi4 hbf4 hbi3 hbf3 hx3 hnx hev hbw4 hb4
        go_wp2_with (go_at_call 21; refine HFT.out.mono ?_; rintro e w5 ⟨⟨ln, m, t, s, f1, t1, f2, t2, rfl⟩, hb5⟩; refine Hid.out ?_)
        have hbi5 := (hb5.block (w.heap.size + 1) (by omega)).trans HBI4.out
        have hbf5 := (hb5.block (w.heap.size + 1 + 1) (by omega)).trans HBF4.out
        obtain ⟨i0, i1, i2, i3, i4, i5, z1⟩ := cells6 hbi5
        obtain ⟨f0, f1', f2', f3, f4, f5, f6, f7, f8, z2⟩ := cells9 hbf5
        have HX5 := Lib.hid (HX4.out.trans (Ext.of_below hb5))
        have HBI5 := Lib.hid hbi5
        have HBF5 := Lib.hid hbf5
        have hs5 := hb5.size
        clear hbi5 hbf5 hb5
        refine Lib.hid ?_
        go_wp2_with fail
        obtain ⟨p1, p2⟩ := put6_at (.string ⟨#[]⟩) (.string ⟨#[]⟩) (.slice none 0 0) (.int .i64 0) (.bool false) (.slice none 0 0) HBI5.out
        obtain ⟨q1, q2⟩ := put9_at (.int .i64 fc) (.int .i64 ln) (.string m) (.string t) (.string s) (.string f1) (.string t1) (.string f2) (.string t2) ((p2.block _ (by omega) (by omega)).trans HBF5.out)
        have p1' := (q2.block (w.heap.size + 1) (by have := p2.size; omega) (by omega)).trans p1
        refine bodyPost_ret (res16 _ p1' q1 rfl rfl) rfl ?_
        refine ⟨ext_step (ext_step HX5.out p2 (fun i hi => by omega)) q2 (fun i hi => by omega), .inr ⟨n, d, hd, HCN.out, HRD.out.emb, HRD.out.fds.emb, HRD.out.nd, fun b' hb' => ?_, fun t' ht' => by rw [hgt] at ht'; cases ht'⟩⟩
        rw [hgt] at hb'
        injection hb' with hb'
        subst hb'
        rw [HFC.out]
        exact ⟨_, _, _, _, _, _, _, _, rfl⟩
      | ok t =>
        have htl : t.fs.length ≤ 1000000 := by have := (gti_ok HCN.out hgt).1; omega
        obtain ⟨has, hhas⟩ : ∃ has, t.xn.isSome = has := ⟨_, rfl⟩
        have HHAS := Lib.hid hhas
        go_upto_region 5 with (go_at_call 20; refine HZ.out.mono ?_; rintro e w3 hp; obtain ⟨A3, cap3, nvs, he, hrows, ⟨qa, qb, qA, qn, qc, qf, qI, qm, qd, hl⟩, hxn⟩ := hp.res t hgt; rw [hhas] at he; obtain rfl := he; obtain rfl := arr_of hl; have hnx := hp.nx; clear hp hl)
        have hxn : ∀ x, t.xn = some x → ZzV w3 [.string qa, .string qb, .slice qA qn qc, .int .i64 qf, .slice qI qm qd] x := hxn
        have hbi3 : w3.heap[w.heap.size + 1]? = some (.cells zInf 37) := (hnx.ext.block _ (by omega) (fun h => by have := HNS.out _ h; omega)).trans HBI2.out
        have hbf3 : w3.heap[w.heap.size + 1 + 1]? = some (.cells zFau 39) := (hnx.ext.block _ (by omega) (fun h => by have := HNS.out _ h; omega)).trans HBF2.out
        have hx3 : Ext (fun _ => False) w w3 := ext_step HXW.out hnx.ext (fun i hi => by have := HNS.out _ hi; omega)
        have hs3 := hnx.ext.size
        obtain ⟨W4, hW4⟩ : ∃ W4, W4 = w3.alloc (.cells #[.string qa, .string qb, .slice qA qn qc, .int .i64 qf, .slice qI qm qd] 60) := ⟨_, rfl⟩
        have hb4 : Below w3.heap.size w3 W4 := by rw [hW4]; exact (Below.refl _ _).alloc (Nat.le_refl _) _
        have hz4 : W4.heap[w3.heap.size]? = some (.cells #[.string qa, .string qb, .slice qA qn qc, .int .i64 qf, .slice qI qm qd] 60) := by rw [hW4]; exact heap_alloc_new _ _
        have hs4 : w3.heap.size + 1 = W4.heap.size := by rw [hW4]; simp
        rw [← hW4]
        clear hW4
        have hqa : TiAll HeadQ t := gti_all (fun s h => sfiAll_head fun f hf => ((HRD.out.emb s h).1 f hf).1) (sfiAll_head fun f hf => (HRD.out.fds.emb f hf).1) hgt
        have hbi4 := (hb4.block (w.heap.size + 1) (by omega)).trans hbi3
        have hbf4 := (hb4.block (w.heap.size + 1 + 1) (by omega)).trans hbf3
        have HBI4 := Lib.hid hbi4
        have HBF4 := Lib.hid hbf4
        have HBI3 := Lib.hid hbi3
        have HBF3 := Lib.hid hbf3
        have HX3 := Lib.hid hx3
        have HB4 := Lib.hid hb4
        have HZ4 := Lib.hid hz4
        have HRW := Lib.hid hrows
        have HXN := Lib.hid hxn
        have HQA := Lib.hid hqa
        have HS4 := Lib.hid hs4
        have hs4' : w3.heap.size < W4.heap.size := by omega
        clear hbi4 hbf4 hbi3 hbf3 hx3 hnx hb4 hz4 hrows hxn hqa hs4 HZ hhas
        go_wp2_with fail
        go_loopg [4, 44] t.fs.length (fun gk s4 s44 wx => ∃ (j : Nat) (vss : List (List Value)), s44 = .int .i64 j ∧ j ≤ t.fs.length ∧ gk = t.fs.length - j ∧ Below W4.heap.size W4 wx ∧ wx.ownsRow W4.heap.size 37 6 s4 j (flat vss) ∧ vss.length = j ∧ ∀ (i : Nat) (vs : List Value) (x : Fx), vss[i]? = some vs → t.fs[i]? = some x → InfV w3 vs x)
        case atStart => exact ⟨0, [], rfl, Nat.zero_le _, rfl, Below.refl _ _, World.ownsRow_nil _ _ _ _, rfl, fun i vs x e => by simp at e⟩
        case round =>
          obtain ⟨j, vss, rfl, hj, rfl, hb, hown, hvl, hvs⟩ := hrel
          obtain ⟨V, hV⟩ : ∃ V, V = wr := ⟨_, rfl⟩
          subst hV
          have HB := Lib.hid hb
          have HVS := Lib.hid hvs
          have HVL := Lib.hid hvl
          have HOWN := Lib.hid hown
          have hsV : W4.heap.size ≤ V.heap.size := hb.size
          clear hb hvs hvl hown
          by_cases hlt : j < t.fs.length
          · obtain ⟨z, hz⟩ : ∃ z, t.fs[j]? = some z := ⟨_, List.getElem?_eq_getElem hlt⟩
            obtain ⟨g, zvs, rfl, hzv, hcl⟩ := HRW.out j z hz
            obtain ⟨ra, rb, rA, rn, rc, rf, rI, rm, rd, rfl⟩ := hzv.sh
            have q0' := hcl 0 _ rfl
            have q1' := hcl 1 _ rfl
            have q2' := hcl 2 _ rfl
            have q3' := hcl 3 _ rfl
            have q4' := hcl 4 _ rfl
            have hgl : g < w3.heap.size := lt_cell q0'
            have hbV : V.heap[g]? = w3.heap[g]? := (HB.out.block g (by omega)).trans (HB4.out.block g hgl)
            have q0 : V.cell? ⟨g, j * 5, none⟩ = some (.string ra) := (World.cell?_of_block hbV).trans q0'
            have q1 : V.cell? ⟨g, j * 5 + 1, none⟩ = some (.string rb) := (World.cell?_of_block hbV).trans q1'
            have q2 : V.cell? ⟨g, j * 5 + 2, none⟩ = some (.slice rA rn rc) := (World.cell?_of_block hbV).trans q2'
            have q3 : V.cell? ⟨g, j * 5 + 3, none⟩ = some (.int .i64 rf) := (World.cell?_of_block hbV).trans q3'
            have q4 : V.cell? ⟨g, j * 5 + 4, none⟩ = some (.slice rI rm rd) := (World.cell?_of_block hbV).trans q4'
            have hj0 : (0 : Int) ≤ (j : Int) := by omega
            have hj1 : (j : Int) < (t.fs.length : Int) := by omega
            have hinf := hzv.inf
            have hci := fun w' => info_any ra rb rA rn rc rf rI rm rd w'
            obtain ⟨mv, hmv⟩ : ∃ mv, modeI (bits .and .i64 rf 127) = mv := ⟨_, rfl⟩
            obtain ⟨ov, hov⟩ : ∃ ov, (bits .and .i64 rf 128 != 0) = ov := ⟨_, rfl⟩
            rw [hmv, hov] at hinf
            simp only [hmv, hov] at hci
            have HCI := Lib.hid hci
            have HINF := Lib.hid hinf
            have HZE := Lib.hid hz
            clear hz hzv hcl q0' q1' q2' q3' q4' hbV hinf hci hmv hov
            obtain ⟨i0, hi0, hz0, hz1, hz2⟩ := info_parts info37
            go_wp2_with (go_at_call 22; refine (HCI.out _).mono ?_; rintro e w5 ⟨rfl, hb5⟩; refine Hid.out ?_)
            have hb5' : Below V.heap.size V w5 := ((Below.refl _ _).alloc (Nat.le_refl _) _).trans (hb5.mono (by simp))
            have hown5 := ownG_below HOWN.out hb5'
            have HB5 := Lib.hid hb5'
            have HO5 := Lib.hid hown5
            have hs5 := hb5'.size
            clear hb5 hb5' hown5
            refine Lib.hid ?_
            go_wp2_with (at_builtin; refine wpList_append_lies _ rfl (.tmp 48) (.tmp 51) 33 rfl W4.heap.size 37 i0 _ 6 96 Tryz.underlying33 hi0 hz0 hz1 hz2 rfl (by decide) u4 j (flat vss) rfl (HO5.out.alloc _) ⟨w5.heap.size, 0, none⟩ 1 1 [.string ra, .string rb, .slice rA rn rc, .int .i64 mv, .bool ov, .slice rI rm rd] rfl rfl (World.news_of_block (by simpa using heap_alloc_new w5 _)) (by simp [Value.oneCell']) (by decide) (by unfold maxLen; omega) (by omega) (by simp; omega) _ rfl ?_; intro g9 cap9 w9 hown9 hg9 hat hlt9; refine Hid.out ?_)
            have hb9 : Below W4.heap.size W4 w9 := ((HB.out.trans (HB5.out.mono hsV)).alloc (by omega) _).grown hg9 (by simp; omega) (fun k hk => by have := HO5.out.lt k hk; omega)
            have HB9 := Lib.hid hb9
            have HO9 := Lib.hid hown9
            clear hb9 hown9 hg9 hat
            refine Lib.hid ?_
            go_wp2_with fail
            go_roundg (t.fs.length - (j + 1))
            case measure => omega
            case rel =>
              refine ⟨j + 1, vss ++ [[.string ra, .string rb, .slice rA rn rc, .int .i64 mv, .bool ov, .slice rI rm rd]], by go_num, by omega, rfl, HB9.out, ?_, by simp [HVL.out], fun i vs x e1 e2 => ?_⟩
              · have := HO9.out
                simpa [flat] using this
              · rcases Nat.lt_or_ge i vss.length with h3 | h3
                · rw [List.getElem?_append_left h3] at e1
                  exact HVS.out i vs x e1 e2
                · rw [List.getElem?_append_right h3] at e1
                  have h4 : i - vss.length = 0 := by
                    have := (List.getElem?_eq_some_iff.1 e1).1
                    simp at this
                    omega
                  rw [h4] at e1
                  simp at e1
                  subst e1
                  have h5 := HVL.out
                  obtain rfl : i = j := by omega
                  rw [HZE.out] at e2
                  obtain rfl := Option.some.inj e2
                  exact HINF.out
          · have hje : j = t.fs.length := by omega
            subst hje
            have hbiV := (HB.out.block (w.heap.size + 1) (by omega)).trans HBI4.out
            have hbfV := (HB.out.block (w.heap.size + 1 + 1) (by omega)).trans HBF4.out
            have hbzV := (HB.out.block w3.heap.size (by omega)).trans HZ4.out
            obtain ⟨i0, i1, i2, i3, i4, i5, z1⟩ := cells6 hbiV
            obtain ⟨n0', n1', n2', n3', n4', z3⟩ := cells5 hbzV
            have HBIV := Lib.hid hbiV
            have HBFV := Lib.hid hbfV
            clear hbiV hbfV hbzV
            go_upto_if 54 with fail
            go_cut [] (fun wx => ∃ (a b : ByteArray) (A' : Option Addr) (n' c' : Nat) (m' : Int) (o' : Bool) (I' : Option Addr) (k' d' : Nat), wx.heap[w.heap.size + 1]? = some (.cells #[.string a, .string b, .slice A' n' c', .int .i64 m', .bool o', .slice I' k' d'] 37) ∧ Ext (fun k => k = w.heap.size + 1) V wx ∧ ∀ x, t.xn = some x → InfV w3 [.string a, .string b, .slice A' n' c', .int .i64 m', .bool o', .slice I' k' d'] x)
            case first =>
              cases has with
              | false =>
                go_wp2
                go_meet
                refine ⟨_, _, _, _, _, _, _, _, _, _, HBIV.out, Ext.refl _ _, fun x e => ?_⟩
                have := HHAS.out
                rw [e] at this
                cases this
              | true =>
                have hci := fun w' => info_any qa qb qA qn qc qf qI qm qd w'
                obtain ⟨mv, hmv⟩ : ∃ mv, modeI (bits .and .i64 qf 127) = mv := ⟨_, rfl⟩
                obtain ⟨ov, hov⟩ : ∃ ov, (bits .and .i64 qf 128 != 0) = ov := ⟨_, rfl⟩
                have hinf := fun x e => (HXN.out x e).inf
                simp only [hmv, hov] at hci hinf
                have HCI := Lib.hid hci
                have HINF := Lib.hid hinf
                clear hci hinf hmv hov
                go_wp2_with (go_at_call 22; refine (HCI.out _).mono ?_; rintro e w5 ⟨rfl, hb5⟩; refine Hid.out ?_)
                have hbi5 := (hb5.block (w.heap.size + 1) (by omega)).trans HBIV.out
                obtain ⟨i0, i1, i2, i3, i4, i5, z1⟩ := cells6 hbi5
                have HBI5 := Lib.hid hbi5
                have HB5 := Lib.hid hb5
                clear hbi5 hb5
                refine Lib.hid ?_
                go_wp2_with fail
                go_meet
                obtain ⟨p1, p2⟩ := put6_at (.string qa) (.string qb) (.slice qA qn qc) (.int .i64 mv) (.bool ov) (.slice qI qm qd) HBI5.out
                exact ⟨_, _, _, _, _, _, _, _, _, _, p1, (Ext.of_below HB5.out).trans p2, HINF.out⟩
            case rest =>
              obtain ⟨a, b, A', n', c', m', o', I', k', d', hbi6, hx6, hinf⟩ := hcut
              obtain ⟨V6, hV6⟩ : ∃ V6, V6 = wc := ⟨_, rfl⟩
              subst hV6
              have hbf6 : V6.heap[w.heap.size + 1 + 1]? = some (.cells zFau 39) := (hx6.block _ (by omega) (by omega)).trans HBFV.out
              obtain ⟨i0, i1, i2, i3, i4, i5, z1⟩ := cells6 hbi6
              obtain ⟨f0, f1, f2, f3, f4, f5, f6, f7, f8, z2⟩ := cells9 hbf6
              obtain ⟨p1, p2⟩ := put6_at (.string a) (.string b) (.slice A' n' c') (.int .i64 m') (.bool o') (.slice I' k' d') hbi6
              obtain ⟨q1, q2⟩ := put9_at (.int .i64 0) (.int .i64 0) (.string ⟨#[]⟩) (.string ⟨#[]⟩) (.string ⟨#[]⟩) (.string ⟨#[]⟩) (.string ⟨#[]⟩) (.string ⟨#[]⟩) (.string ⟨#[]⟩) ((p2.block _ (by have := hx6.size; omega) (by omega)).trans hbf6)
              have p1' := (q2.block (w.heap.size + 1) (by have := hx6.size; have := p2.size; omega) (by omega)).trans p1
              obtain ⟨W6, hW6⟩ : ∃ W6, W6 = put6 V6 (w.heap.size + 1) (.string a) (.string b) (.slice A' n' c') (.int .i64 m') (.bool o') (.slice I' k' d') := ⟨_, rfl⟩
              obtain ⟨W9, hW9⟩ : ∃ W9, W9 = put9 W6 (w.heap.size + 1 + 1) (.int .i64 0) (.int .i64 0) (.string ⟨#[]⟩) (.string ⟨#[]⟩) (.string ⟨#[]⟩) (.string ⟨#[]⟩) (.string ⟨#[]⟩) (.string ⟨#[]⟩) (.string ⟨#[]⟩) := ⟨_, rfl⟩
              rw [← hW6] at p1 p2 q1 q2 p1'
              rw [← hW9] at q1 q2 p1'
              have hset0 : V6.drew.cell? ⟨w.heap.size + 1, 0, none⟩ = some (.string a) ∧ V6.drew.cell? ⟨w.heap.size + 1, 1, none⟩ = some (.string b) ∧ V6.drew.cell? ⟨w.heap.size + 1, 2, none⟩ = some (.slice A' n' c') ∧ V6.drew.cell? ⟨w.heap.size + 1, 3, none⟩ = some (.int .i64 m') ∧ V6.drew.cell? ⟨w.heap.size + 1, 4, none⟩ = some (.bool o') ∧ V6.drew.cell? ⟨w.heap.size + 1, 5, none⟩ = some (.slice I' k' d') := by
                have h : V6.drew.heap[w.heap.size + 1]? = _ := hbi6
                obtain ⟨i0, i1, i2, i3, i4, i5, _⟩ := cells6 h
                exact ⟨i0, i1, i2, i3, i4, i5⟩
              have hset1 : W6.drew.cell? ⟨w.heap.size + 1, 0, none⟩ = some (.string a) ∧ W6.drew.cell? ⟨w.heap.size + 1, 1, none⟩ = some (.string b) ∧ W6.drew.cell? ⟨w.heap.size + 1, 2, none⟩ = some (.slice A' n' c') ∧ W6.drew.cell? ⟨w.heap.size + 1, 3, none⟩ = some (.int .i64 m') ∧ W6.drew.cell? ⟨w.heap.size + 1, 4, none⟩ = some (.bool o') ∧ W6.drew.cell? ⟨w.heap.size + 1, 5, none⟩ = some (.slice I' k' d') := by
                have h : W6.drew.heap[w.heap.size + 1]? = _ := p1
                obtain ⟨i0, i1, i2, i3, i4, i5, _⟩ := cells6 h
                exact ⟨i0, i1, i2, i3, i4, i5⟩
              have hset2 : W9.drew.cell? ⟨w.heap.size + 1, 0, none⟩ = some (.string a) ∧ W9.drew.cell? ⟨w.heap.size + 1, 1, none⟩ = some (.string b) ∧ W9.drew.cell? ⟨w.heap.size + 1, 2, none⟩ = some (.slice A' n' c') ∧ W9.drew.cell? ⟨w.heap.size + 1, 3, none⟩ = some (.int .i64 m') ∧ W9.drew.cell? ⟨w.heap.size + 1, 4, none⟩ = some (.bool o') ∧ W9.drew.cell? ⟨w.heap.size + 1, 5, none⟩ = some (.slice I' k' d') := by
                have h : W9.drew.heap[w.heap.size + 1]? = _ := p1'
                obtain ⟨i0, i1, i2, i3, i4, i5, _⟩ := cells6 h
                exact ⟨i0, i1, i2, i3, i4, i5⟩
              have HI := Lib.hid hinf
              have HX6 := Lib.hid hx6
              have HP := Lib.hid p2
              have HQ1 := Lib.hid q1
              have HQ2 := Lib.hid q2
              have HP1 := Lib.hid p1'
              have hs6 := hx6.size
              subst hW9 hW6
              clear hbi6 hbf6 hinf hx6 p1 p2 q1 q2 p1'
              go_upto_region 14 with fail
              go_region_held3 (fun w' => w'.cell? ⟨w.heap.size + 1, 0, none⟩ = some (.string a) ∧ w'.cell? ⟨w.heap.size + 1, 1, none⟩ = some (.string b) ∧ w'.cell? ⟨w.heap.size + 1, 2, none⟩ = some (.slice A' n' c') ∧ w'.cell? ⟨w.heap.size + 1, 3, none⟩ = some (.int .i64 m') ∧ w'.cell? ⟨w.heap.size + 1, 4, none⟩ = some (.bool o') ∧ w'.cell? ⟨w.heap.size + 1, 5, none⟩ = some (.slice I' k' d'))
                (first | with_reducible exact hset2 | with_reducible exact hset1 | with_reducible exact hset0)
                (fail)
              all_goals
                go_wp2_with fail
                obtain ⟨W6, hW6⟩ : ∃ W6, W6 = put6 V6 (w.heap.size + 1) (.string a) (.string b) (.slice A' n' c') (.int .i64 m') (.bool o') (.slice I' k' d') := ⟨_, rfl⟩
                obtain ⟨W9, hW9⟩ : ∃ W9, W9 = put9 W6 (w.heap.size + 1 + 1) (.int .i64 0) (.int .i64 0) (.string ⟨#[]⟩) (.string ⟨#[]⟩) (.string ⟨#[]⟩) (.string ⟨#[]⟩) (.string ⟨#[]⟩) (.string ⟨#[]⟩) (.string ⟨#[]⟩) := ⟨_, rfl⟩
                have p2 := HP.out
                have q1 := HQ1.out
                have q2 := HQ2.out
                have p1 := HP1.out
                rw [← hW6] at p2 q1 q2 p1
                rw [← hW9] at q1 q2 p1
                have hxV : Ext (fun _ => False) w V := HX3.out.trans ((Ext.of_below HB4.out).trans (Ext.of_below HB.out))
                have hx9 := ext_step (ext_step (ext_step hxV HX6.out (fun i hi => by omega)) p2 (fun i hi => by omega)) q2 (fun i hi => by omega)
                have hVb : ∀ b, b < V.heap.size → b ≠ w.heap.size + 1 → b ≠ w.heap.size + 1 + 1 → W9.drew.heap[b]? = V.heap[b]? := fun b h1 h2 h3 =>
                  (q2.block b (by have := HX6.out.size; have := p2.size; omega) h3).trans ((p2.block b (by have := HX6.out.size; omega) h2).trans (HX6.out.block b h1 h2))
                have hkeep : ∀ b, b < w3.heap.size → b ≠ w.heap.size + 1 → W9.drew.heap[b]? = w3.heap[b]? := fun b h1 h2 => by
                  by_cases h3 : b = w.heap.size + 1 + 1
                  · subst h3
                    have q1d : W9.drew.heap[w.heap.size + 1 + 1]? = some (.cells zFau 39) := q1
                    exact q1d.trans HBF3.out.symm
                  · exact (hVb b (by omega) h2 h3).trans ((HB.out.block b (by omega)).trans (HB4.out.block b h1))
                have h0 : w3.cell? ⟨w.heap.size + 1, 0, none⟩ = some (.string ⟨#[]⟩) := (cells6 HBI3.out).1
                obtain ⟨A9, cap9, hu, hrows⟩ := rowsI_of (W := W9.drew) HOWN.out HVL.out rfl (fun i vs x e1 e2 => (HVS.out i vs x e1 e2).keepBox (HQA.out.1 x (List.mem_of_getElem? e2)) h0 hkeep) (fun b hb hbl => hVb b hbl (by omega) (by omega))
                have hinf9 := fun x e => (HI.out x e).keepBox (HQA.out.2 x e) h0 hkeep
                have hx9 := hx9.drewN 1
                change Ext (fun _ => False) w W9.drew at hx9
                have p1d : W9.drew.heap[w.heap.size + 1]? = some (.cells #[.string a, .string b, .slice A' n' c', .int .i64 m', .bool o', .slice I' k' d'] 37) := p1
                have q1d : W9.drew.heap[w.heap.size + 1 + 1]? = some (.cells zFau 39) := q1
                clear p1 q1 p2 q2 hkeep hVb
                subst hW9 hW6
                refine bodyPost_ret (res16 _ p1d q1d rfl rfl) rfl ?_
                refine ⟨hx9, .inr ⟨n, d, hd, HCN.out, HRD.out.emb, HRD.out.fds.emb, HRD.out.nd, (fun b' hb' => by rw [hgt] at hb'; cases hb'), fun t' ht' => ?_⟩⟩
                rw [hgt] at ht'
                injection ht' with ht'
                subst ht'
                refine ⟨A9, cap9, #[.string a, .string b, .slice A' n' c', .int .i64 m', .bool o', .slice I' k' d'], ?_, hrows, ⟨_, _, _, _, _, _, _, _, _, _, rfl⟩, hinf9⟩
                rw [HHAS.out, ← hu]
                rfl
end Go.Proofs.YtnmgocbmofbppaaGreatDoor
