/- text: what its rounds need. -/
import Derived.Test.YthhmnnojgjpibaaGreatDoorA08

set_option linter.unusedVariables false
set_option linter.unusedSimpArgs false

namespace Go.Proofs.YthhmnnojgjpibaaGreatDoor
open Go Go.RowKit Go.Lib

section
variable {I : Ids} {Fp : Nat → Prop} {B : Nat → Option Value} {bs t : List UInt8} {b : UInt8} {fr : Bool} {w : World}
theorem getc_n (hI : IdOk I) (hB : BOk I B) (h : DS I Fp B bs (b :: t) fr w) (n : Int) (hn : (b.toNat : Int) = n) :
    Calls Tryz.prog 36 #[.pointer (some ⟨I.dd, 0, none⟩)] w fun e w' => e = .returned (.tuple #[.int .u8 n, .bool true]) ∧ DS I Fp B bs t true w' ∧ Ext Fp w w' := by
  subst hn; exact getc_ds hI hB h
theorem mustgetc_n (hI : IdOk I) (hB : BOk I B) (h : DS I Fp B bs (b :: t) fr w) (n : Int) (hn : (b.toNat : Int) = n) :
    Calls Tryz.prog 39 #[.pointer (some ⟨I.dd, 0, none⟩)] w fun e w' => e = .returned (.tuple #[.int .u8 n, .bool true]) ∧ DS I Fp B bs t true w' ∧ Ext Fp w w' := by
  subst hn; exact mustgetc_ds hI hB h
theorem ungetc_n (b : UInt8) (n : Int) (hn : (b.toNat : Int) = n) (h : DS I Fp B bs t true w) :
    Calls Tryz.prog 37 #[.pointer (some ⟨I.dd, 0, none⟩), .int .u8 n] w fun e w' => e = .returned (.tuple #[]) ∧ DS I Fp B bs (b :: t) false w' ∧ Ext Fp w w' := by
  subst hn; exact ungetc_ds b h
theorem wb_n (h : DS I Fp B bs t fr w) (c : UInt8) (n : Int) (hn : (c.toNat : Int) = n) {bs' : List UInt8} (hb : bs' = bs ++ [c]) (hlim : bs.length + 1 ≤ 1000000) :
    Calls Tryz.prog 44 #[.pointer (some ⟨I.dd, 7, none⟩), .int .u8 n] w fun e w' => e = .returned .nilIface ∧ ∃ Fp', DS I Fp' B bs' t fr w' ∧ Stp Fp Fp' w w' := by
  subst hn hb; exact wb_ds h c hlim
theorem wbo_n (h : DS I Fp B bs t fr w) (c : UInt8) (n : Int) (hn : (c.toNat : Int) = n) {bs' : List UInt8} (hb : bs' = bs ++ [c]) (hlim : bs.length + 1 ≤ 1000000) {g k cap : Nat} (hg : w.cell? ⟨I.dd, 7, none⟩ = some (.slice (some ⟨g, 0, none⟩) k cap)) :
    Calls Tryz.prog 44 #[.pointer (some ⟨I.dd, 7, none⟩), .int .u8 n] w fun e w' => e = .returned .nilIface ∧ (∃ Fp', DS I Fp' B bs' t fr w' ∧ Stp Fp Fp' w w') ∧ ∀ (j : Nat) (y : UInt8), bs[j]? = some y → w'.cell? ⟨g, j, none⟩ = some (.int .u8 (y.toNat : Int)) := by
  subst hn hb; exact wb_old h c hlim hg
end
/-- A cut of a slice at the head of a row. -/
theorem slice_from (g n m k cap : Nat) (x : Int) (hx : x = m) (hn : n = m + k) (hk : 1 ≤ k) (hc : n ≤ cap) (W : World) : (Instr.slice 39 (.slice (some ⟨g, 0, none⟩) n cap) (some (.int .i64 x)) none none).run Tryz.prog W = .ok (.slice (some ⟨g, m, none⟩) k (cap - m)) W := by
  subst hx hn
  exact sliced_tail g m k cap hk hc W
/-- What lies behind a place of the row, as a string. -/
theorem conv_at (X : List UInt8) (g m k cap : Nat) (w : World) (hk : k = X.length) (h : ∀ j x, X[j]? = some x → w.cell? ⟨g, m + j, none⟩ = some (.int .u8 (x.toNat : Int))) : (convert 39 9 (.slice (some ⟨g, m, none⟩) k cap)).run Tryz.prog w = .ok (.string ⟨X.toArray⟩) w := by
  subst hk
  refine run_convert_bytes_back (P := Tryz.prog) w 39 9 5 ⟨g, m, none⟩ cap X Tryz.underlying39 Tryz.underlying5 Tryz.underlying9 fun j hj => ?_
  have e : (⟨g, m, none⟩ : Addr).add j = ⟨g, m + j, none⟩ := by unfold Addr.add; split <;> simp_all
  rw [e]
  exact h j _ (List.getElem?_eq_getElem hj)
theorem le_cut {n m k cap : Nat} (h1 : n = m + k) (h2 : n ≤ cap) : k ≤ cap - m := by omega
theorem app_at {L X : List UInt8} {j : Nat} {x : UInt8} (h : X[j]? = some x) : (L ++ X)[L.length + j]? = some x := by
  rw [List.getElem?_append_right (by omega), Nat.add_sub_cancel_left]; exact h
/-- What the loop of text holds: j bytes of v are read. -/
def TxtR (I : Ids) (Fp : Nat → Prop) (B : Nat → Option Value) (v tm : List UInt8) (w : World) (gk : Nat) (s7 s8 s9 : Value) (wx : World) : Prop :=
  ∃ (j : Nat) (Fq : Nat → Prop) (f : Bool) (x7 x8 : Int), j ≤ v.length ∧ gk = v.length - j ∧ s7 = .int .u8 x7 ∧ s8 = .int .u8 x8 ∧ s9 = .int .i64 0 ∧ DS I Fq B (v.take j) (esc (v.drop j) ++ tm) f wx ∧ Stp Fp Fq w wx
/-- The next round. -/
theorem TxtR.next {I : Ids} {Fp Fq Fp' : Nat → Prop} {B : Nat → Option Value} {v tm : List UInt8} {w wr wx : World} {j : Nat} {c : UInt8} {x7 x8 : Int} (hlt : j < v.length) (hc : c = v[j]) (hd : DS I Fp' B (v.take j ++ [c]) (esc (v.drop (j + 1)) ++ tm) true wx) (hs : Stp Fp Fq w wr) (hs2 : Stp Fq Fp' wr wx) :
    TxtR I Fp B v tm w (v.length - (j + 1)) (.int .u8 x7) (.int .u8 x8) (.int .i64 0) wx :=
  ⟨j + 1, Fp', true, x7, x8, hlt, rfl, rfl, rfl, rfl, by rw [List.take_succ_eq_append_getElem hlt, ← hc]; exact hd, hs.trans hs2⟩
/-- The tables of decoding, whatever is done from block B0 on. -/
def U8 (B0 : Nat) (w : World) : Prop := ∀ w', Below B0 w w' → Lib.Utf8Tabs 1 2 w'
theorem Stp.low {Fp Fp' : Nat → Prop} {w w' : World} {B0 : Nat} (h : Stp Fp Fp' w w') (hF : ∀ k, Fp k → B0 ≤ k) (hz : B0 ≤ w.heap.size) : Below B0 w w' := h.1.below hF hz
theorem decodeGo_L {l : List UInt8} (h : l ≠ []) : Lib.decodeGo ⟨l.toArray⟩ = decodeL l := by
  unfold Lib.decodeGo decodeL
  rw [if_neg (by
    have := List.length_pos_iff.2 h
    show ¬ l.toArray.size = 0
    simp; omega)]
/-- The body of the first loop of a text. -/
def firstLoop : Code → Option Code
  | .loop c => some c
  | .seq a b => match firstLoop a with
    | some c => some c
    | none => firstLoop b
  | .block _ c => firstLoop c
  | .scope c => firstLoop c
  | .cond _ a b => match firstLoop a with
    | some c => some c
    | none => firstLoop b
  | _ => none
noncomputable def txtBody : Code := (Tryz.f38.body.bind firstLoop).getD .skip
/-- The frame of text at the head of a round. -/
def TxtA (I : Ids) (q : Int) (a : Act) : Prop := a.defers = [] ∧ a.tmps.size = 384 ∧ a.tmps.getD 0 undef = .pointer (some ⟨I.dd, 0, none⟩) ∧ a.tmps.getD 1 undef = .int .i64 q ∧ a.tmps.getD 2 undef = .bool false ∧
  (∃ x, a.tmps.getD 7 undef = .int .u8 x) ∧ (∃ x, a.tmps.getD 8 undef = .int .u8 x) ∧ a.tmps.getD 9 undef = .int .i64 0
end Go.Proofs.YthhmnnojgjpibaaGreatDoor
