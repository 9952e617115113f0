/- Plain: the two roads of FnFieldsTurned say the same. -/
import Derived.Test.YtnmgocbmofbppaaGreatDoorA35
import Derived.Test.YtnmgocbmofbppaaGreatDoorL3

set_option linter.unusedVariables false
set_option linter.unusedSimpArgs false

namespace Go.Proofs.YtnmgocbmofbppaaGreatDoor
open Go.RowKit

abbrev strT (fs : List Fl) : Ty := .mk 13 0 ⟨#[]⟩ [] fs
theorem fsOf_str (l : AL Ty) (fs : List Fl) : fsOf l (strT fs) = fs := if_neg (by show ¬ (13 : Int) = 14; decide)
/-- The two roads' results, side by side. -/
theorem turned_laws {U : Lib.RTab} {l : AL Ty} {fs : List Fl} {n : Nat} {w3 w4 w6 w7 : World} {A3 A4 : Option Addr} {n3 n4 c3 c4 : Nat} {v3 v4 : Array Value} {has3 has4 ok3 ok4 : Bool} {fc3 fc4 : Value} (hn : n < fs.length) (he : ∀ f ∈ fs, f.emb = false)
    (h3 : FiePost tgF U False w3 l (strT fs) (.returned (.tuple #[.slice A3 n3 c3, .agg v3, .bool has3, fc3, .bool ok3, .bool false])) w4)
    (h4 : FiePost tgF U False w6 l (strT (turn n fs)) (.returned (.tuple #[.slice A4 n4 c4, .agg v4, .bool has4, fc4, .bool ok4, .bool false])) w7) :
    (ok3 = ok4 ∧ has3 = has4 ∧ n3 = n4) ∧ n3 ≤ 1000000 ∧ ((has3 = false ∧ n3 = 0) ∨ ∃ t t' : Ti, n3 = t.fs.length ∧ n3 = t'.fs.length ∧ has3 = t.xn.isSome ∧ RowsI w4 A3 t.fs ∧ RowsI w7 A4 t'.fs ∧ (∀ x ∈ t.fs, ∃ i, i < fs.length ∧ x.idx = [i]) ∧ (∀ x ∈ t'.fs, ∃ i, i < fs.length ∧ x.idx = [i]) ∧
      (∀ x ∈ t.fs, ∃ y ∈ t'.fs, hitF n fs.length x y) ∧ t.xn.isSome = t'.xn.isSome ∧ ∀ x y, t.xn = some x → t'.xn = some y → x.fi = y.fi ∧ InfV w4 v3.toList x ∧ InfV w7 v4.toList y) := by
  have hUV : fs.take n ++ fs.drop n = fs := List.take_append_drop n fs
  have hUl : (fs.take n).length = n := by rw [List.length_take]; omega
  have hVl : (fs.drop n).length = fs.length - n := List.length_drop
  have hV : fs.drop n ≠ [] := fun e => by rw [e] at hVl; simp at hVl; omega
  rcases h3.res with ⟨e, _⟩ | ⟨n1, d1, qd, q2, _, _, qn, e1, e2⟩
  · have := (tup6 e).2.2.2.2.2
    cases this
  · rcases h4.res with ⟨e, _⟩ | ⟨m1, d2, _, r2, _, _, rn, f1, f2⟩
    · have := (tup6 e).2.2.2.2.2
      cases this
    · rw [fsOf_str] at q2 qn e1 e2 r2 rn f1 f2
      cases n1 with
      | zero => exact q2.deep.elim
      | succ n1 =>
      cases m1 with
      | zero => exact r2.deep.elim
      | succ m1 =>
      cases hg : gti tgF (exOf U) l (n1 + 1) fs with
      | error b =>
        have hg' := hg
        rw [← hUV] at hg'
        obtain ⟨b', hg2⟩ := turned_err (n2 := m1) (by rw [hUV]; exact he) hg'
        obtain ⟨_, _, _, _, _, _, _, _, he1⟩ := e1 b hg
        obtain ⟨_, _, _, _, _, _, _, _, he2⟩ := f1 b' hg2
        obtain ⟨a0, _, a2, a3, a4, _⟩ := tup6 he1
        obtain ⟨b0, _, b2, b3, b4, _⟩ := tup6 he2
        injection a0 with _ a0 _
        injection b0 with _ b0 _
        injection a2 with a2
        injection b2 with b2
        injection a4 with a4
        injection b4 with b4
        exact ⟨⟨by rw [a4, b4], by rw [a2, b2], by rw [a0, b0]⟩, by omega, .inl ⟨a2, a0⟩⟩
      | ok t =>
        have hg' := hg
        rw [← hUV] at hg'
        obtain ⟨t', hg2, hxs, hln, hxn, hi, hi', hhit⟩ := turned_gti (n2 := m1) (by rw [hUV]; exact he) (by rw [hUV]; exact qn) hV hg'
        obtain ⟨_, _, _, he1, k1, _, k2⟩ := e2 t hg
        obtain ⟨_, _, _, he2, j1, _, j2⟩ := f2 t' hg2
        obtain ⟨a0, a1, a2, a3, a4, _⟩ := tup6 he1
        obtain ⟨b0, b1, b2, b3, b4, _⟩ := tup6 he2
        injection a0 with a00 a0 _
        injection b0 with b00 b0 _
        injection a1 with a1
        injection b1 with b1
        injection a2 with a2
        injection b2 with b2
        injection a4 with a4
        injection b4 with b4
        subst a00 b00 a1 b1
        have hsum : (fs.take n).length + (fs.drop n).length = fs.length := by rw [hUl, hVl]; omega
        rw [hsum] at hi hi' hhit
        rw [hUl] at hhit
        refine ⟨⟨by rw [a4, b4], by rw [a2, b2, hxs], by rw [a0, b0, hln]⟩, by have := (gti_ok q2 hg).1; omega, .inr ⟨t, t', a0, by rw [a0, hln], a2, k1, j1, hi, hi', hhit, hxs, fun x y hx hy => ⟨hxn x y hx hy, k2 x hx, j2 y hy⟩⟩⟩
end Go.Proofs.YtnmgocbmofbppaaGreatDoor
