/- Plain: the rules of a struct without embedded fields, and of the same fields turned. -/
import Derived.Test.YtnmgocbmofbppaaGreatDoorA26

set_option linter.unusedVariables false
set_option linter.unusedSimpArgs false

namespace Go.Proofs.YtnmgocbmofbppaaGreatDoor
open Go.RowKit

section
variable (tg : ByteArray → ByteArray) (ex : ByteArray → Bool) (l : AL Ty)
/-- A field is left out. -/
def skipF (f : Fl) : Bool := !ex f.name || (tg f.tag).toList == [45]
/-- Its own rules. -/
def ruleF (f : Fl) : Option Fi := sfi tg (lkOf tg (bare f.t l)) f.name f.tag
/-- It has none. -/
def errF (f : Fl) : Bool := !skipF tg ex f && (ruleF tg l f).isNone
def isX (f : Fl) : Bool := f.name.toList == xmlNameL
/-- The rules that the list of rules gets. -/
def rowF (f : Fl) : Option Fi := if skipF tg ex f || isX f then none else ruleF tg l f
/-- The rules of the name. -/
def xnF (f : Fl) : Option Fi := if skipF tg ex f || !isX f then none else ruleF tg l f
def rowsFrom : Nat → List Fl → List Fx
  | _, [] => []
  | i, f :: fs => (match rowF tg ex l f with | some x => [⟨x, [i]⟩] | none => []) ++ rowsFrom (i + 1) fs
def xnFrom : Nat → List Fl → Option Fx → Option Fx
  | _, [], a => a
  | i, f :: fs, a => xnFrom (i + 1) fs (match xnF tg ex l f with | some x => some ⟨x, [i]⟩ | none => a)
end
section
variable {tg : ByteArray → ByteArray} {ex : ByteArray → Bool} {l : AL Ty}
theorem rowsFrom_idx : ∀ (fs : List Fl) (i : Nat), ∀ x ∈ rowsFrom tg ex l i fs, x.idx.length = 1
  | [], _, x, h => by simp [rowsFrom] at h
  | f :: fs, i, x, h => by
    simp only [rowsFrom, List.mem_append] at h
    rcases h with h | h
    · split at h
      · simp at h; subst h; rfl
      · simp at h
    · exact rowsFrom_idx fs (i + 1) x h
theorem rowsFrom_append : ∀ (us bs : List Fl) (i : Nat), rowsFrom tg ex l i (us ++ bs) = rowsFrom tg ex l i us ++ rowsFrom tg ex l (i + us.length) bs
  | [], bs, i => by simp [rowsFrom]
  | f :: us, bs, i => by
    simp only [List.cons_append, rowsFrom, rowsFrom_append us bs (i + 1), List.length_cons, List.append_assoc]
    rw [show i + 1 + us.length = i + (us.length + 1) by omega]
/-- Among rules of depth 1 there is no conflict, or an error. -/
theorem addFx_flat {fs : List Fx} {x : Fx} (h : ∀ o ∈ fs, o.idx.length = 1) (hx : x.idx.length = 1) : addFx fs x = if fs.any fun o => confl o.fi x.fi then none else some (fs ++ [x]) := by
  by_cases hc : fs.any fun o => confl o.fi x.fi
  · rw [if_pos hc]
    obtain ⟨o, ho, hco⟩ := List.any_eq_true.1 hc
    have hm : o ∈ fs.filter fun o => confl o.fi x.fi := List.mem_filter.2 ⟨ho, hco⟩
    unfold addFx
    simp only
    rw [if_neg (by
      rw [List.isEmpty_iff]
      intro e
      rw [e] at hm
      cases hm), if_neg (by
      intro e
      obtain ⟨y, hy, e⟩ := List.any_eq_true.1 e
      have := h y (List.mem_filter.1 hy).1
      have e := of_decide_eq_true e
      omega), if_pos (List.any_eq_true.2 ⟨o, hm, decide_eq_true (by rw [h o ho, hx])⟩)]
  · rw [if_neg hc]
    refine addFx_free fun o ho => ?_
    cases hco : confl o.fi x.fi with
    | false => rfl
    | true => exact absurd (List.any_eq_true.2 ⟨o, ho, hco⟩) hc
theorem noC_snoc {fs : List Fx} {x : Fx} : NoC (fs ++ [x]) ↔ NoC fs ∧ (fs.any fun o => confl o.fi x.fi) = false := by
  unfold NoC
  rw [List.pairwise_append]
  constructor
  · intro ⟨h1, _, h3⟩
    refine ⟨h1, ?_⟩
    rw [List.any_eq_false]
    intro o ho
    rw [h3 o ho x (by simp)]
    decide
  · intro ⟨h1, h2⟩
    refine ⟨h1, by simp, fun a ha b hb => ?_⟩
    simp at hb
    subst hb
    rw [List.any_eq_false] at h2
    simpa using h2 a ha
theorem NoC.left {a b : List Fx} (h : NoC (a ++ b)) : NoC a := (List.pairwise_append.1 h).1
/-- What getTypeInfo says of fields none of which is embedded. -/
theorem gtiGo_flat {r : List Fl → Except Bool Ti} : ∀ (fs : List Fl) (i : Nat) (acc t : Ti), (∀ f ∈ fs, f.emb = false) → (∀ o ∈ acc.fs, o.idx.length = 1) → NoC acc.fs →
    (gtiGo tg ex l r fs i acc = .ok t ↔ (∀ f ∈ fs, errF tg ex l f = false) ∧ NoC (acc.fs ++ rowsFrom tg ex l i fs) ∧ t = ⟨xnFrom tg ex l i fs acc.xn, acc.fs ++ rowsFrom tg ex l i fs⟩)
  | [], i, acc, t, _, _, hn => by
    simp only [gtiGo, rowsFrom, xnFrom, List.append_nil]
    constructor
    · intro h
      injection h with h
      exact ⟨by simp, hn, h.symm⟩
    · rintro ⟨_, _, rfl⟩
      rfl
  | f :: fs, i, acc, t, he, ha, hn => by
    have hf : f.emb = false := he f (by simp)
    have hstep : gtiStep tg ex l r i f acc = if skipF tg ex f then .ok acc else match ruleF tg l f with
        | none => .error false
        | some fi => if isX f then .ok ⟨some ⟨fi, [i]⟩, acc.fs⟩ else match addFx acc.fs ⟨fi, [i]⟩ with
          | none => .error true
          | some fs' => .ok ⟨acc.xn, fs'⟩ := by
      unfold gtiStep skipF ruleF isX
      rw [hf]
      simp only [Bool.not_false, Bool.and_true, Bool.false_eq_true, false_and, if_false]
      split
      · rfl
      · cases sfi tg (lkOf tg (bare f.t l)) f.name f.tag with
        | none => rfl
        | some fi =>
          simp only
          split
          · rfl
          · cases addFx acc.fs ⟨fi, [i]⟩ <;> rfl
    have ih := fun acc' h1 h2 => gtiGo_flat fs (i + 1) acc' t (fun g hg => he g (by simp [hg])) h1 h2 (r := r)
    simp only [gtiGo]
    rw [hstep]
    by_cases hs : skipF tg ex f = true
    · rw [if_pos hs]
      have h1 : errF tg ex l f = false := by unfold errF; rw [hs]; rfl
      have h2 : rowF tg ex l f = none := by unfold rowF; rw [hs]; rfl
      have h3 : xnF tg ex l f = none := by unfold xnF; rw [hs]; rfl
      have hr : rowsFrom tg ex l i (f :: fs) = rowsFrom tg ex l (i + 1) fs := by simp only [rowsFrom, h2, List.nil_append]
      have hx : ∀ a, xnFrom tg ex l i (f :: fs) a = xnFrom tg ex l (i + 1) fs a := fun a => by simp only [xnFrom, h3]
      rw [hr, hx]
      simp only [ih acc ha hn]
      constructor
      · rintro ⟨k1, k2⟩
        exact ⟨fun g hg => (List.mem_cons.1 hg).elim (fun e => e ▸ h1) (k1 g), k2⟩
      · rintro ⟨k1, k2⟩
        exact ⟨fun g hg => k1 g (by simp [hg]), k2⟩
    · rw [if_neg hs]
      have hs' : skipF tg ex f = false := by simpa using hs
      cases hru : ruleF tg l f with
      | none =>
        have h1 : errF tg ex l f = true := by unfold errF; rw [hs', hru]; rfl
        simp only
        constructor
        · intro h; cases h
        · rintro ⟨k1, _⟩
          rw [k1 f (by simp)] at h1
          cases h1
      | some fi =>
        have h1 : errF tg ex l f = false := by unfold errF; rw [hru]; simp
        simp only
        by_cases hx : isX f = true
        · rw [if_pos hx]
          have h2 : rowF tg ex l f = none := by unfold rowF; rw [hx]; simp
          have h3 : xnF tg ex l f = some fi := by unfold xnF; rw [hs', hx, hru]; rfl
          have hr : rowsFrom tg ex l i (f :: fs) = rowsFrom tg ex l (i + 1) fs := by simp only [rowsFrom, h2, List.nil_append]
          have hxf : ∀ a, xnFrom tg ex l i (f :: fs) a = xnFrom tg ex l (i + 1) fs (some ⟨fi, [i]⟩) := fun a => by simp only [xnFrom, h3]
          rw [hr, hxf]
          simp only [ih ⟨some ⟨fi, [i]⟩, acc.fs⟩ ha hn]
          constructor
          · rintro ⟨k1, k2⟩
            exact ⟨fun g hg => (List.mem_cons.1 hg).elim (fun e => e ▸ h1) (k1 g), k2⟩
          · rintro ⟨k1, k2⟩
            exact ⟨fun g hg => k1 g (by simp [hg]), k2⟩
        · rw [if_neg hx]
          have hx' : isX f = false := by simpa using hx
          have h2 : rowF tg ex l f = some fi := by unfold rowF; rw [hs', hx', hru]; rfl
          have h3 : xnF tg ex l f = none := by unfold xnF; rw [hx']; simp
          have hr : rowsFrom tg ex l i (f :: fs) = ⟨fi, [i]⟩ :: rowsFrom tg ex l (i + 1) fs := by simp only [rowsFrom, h2]; rfl
          have hxf : ∀ a, xnFrom tg ex l i (f :: fs) a = xnFrom tg ex l (i + 1) fs a := fun a => by simp only [xnFrom, h3]
          have hap : acc.fs ++ rowsFrom tg ex l i (f :: fs) = (acc.fs ++ [⟨fi, [i]⟩]) ++ rowsFrom tg ex l (i + 1) fs := by rw [hr]; simp
          rw [hap, hxf, addFx_flat ha rfl]
          by_cases hc : (acc.fs.any fun o => confl o.fi fi) = true
          · rw [if_pos hc]
            simp only
            constructor
            · intro h; cases h
            · rintro ⟨_, k2, _⟩
              have := (noC_snoc.1 k2.left).2
              rw [hc] at this
              cases this
          · rw [if_neg hc]
            have hc' : (acc.fs.any fun o => confl o.fi fi) = false := by simpa using hc
            have hn2 : NoC (acc.fs ++ [⟨fi, [i]⟩]) := noC_snoc.2 ⟨hn, hc'⟩
            have ha2 : ∀ o ∈ acc.fs ++ [(⟨fi, [i]⟩ : Fx)], o.idx.length = 1 := fun o ho => by
              rcases List.mem_append.1 ho with ho | ho
              · exact ha o ho
              · simp at ho; subst ho; rfl
            simp only [ih ⟨acc.xn, acc.fs ++ [⟨fi, [i]⟩]⟩ ha2 hn2]
            constructor
            · rintro ⟨k1, k2⟩
              exact ⟨fun g hg => (List.mem_cons.1 hg).elim (fun e => e ▸ h1) (k1 g), k2⟩
            · rintro ⟨k1, k2⟩
              exact ⟨fun g hg => k1 g (by simp [hg]), k2⟩
theorem gti_flat {n : Nat} {fs : List Fl} (t : Ti) (he : ∀ f ∈ fs, f.emb = false) : gti tg ex l (n + 1) fs = .ok t ↔ (∀ f ∈ fs, errF tg ex l f = false) ∧ NoC (rowsFrom tg ex l 0 fs) ∧ t = ⟨xnFrom tg ex l 0 fs none, rowsFrom tg ex l 0 fs⟩ := by
  have := gtiGo_flat (tg := tg) (ex := ex) (l := l) (r := gti tg ex l n) fs 0 ⟨none, []⟩ t he (by simp) (by exact List.Pairwise.nil)
  simp only [List.nil_append] at this
  exact this
/-- The rules alone. -/
theorem rowsFrom_fi : ∀ (fs : List Fl) (i : Nat), (rowsFrom tg ex l i fs).map Fx.fi = fs.filterMap (rowF tg ex l)
  | [], _ => rfl
  | f :: fs, i => by
    simp only [rowsFrom, List.map_append, rowsFrom_fi fs (i + 1)]
    cases h : rowF tg ex l f with
    | none => simp [h]
    | some x => simp [h]
theorem noC_fi {fs : List Fx} : NoC fs ↔ (fs.map Fx.fi).Pairwise fun a b => confl a b = false := by
  unfold NoC
  rw [List.pairwise_map]
theorem rowsFrom_mem : ∀ (fs : List Fl) (i : Nat) (x : Fx), x ∈ rowsFrom tg ex l i fs ↔ ∃ j f, fs[j]? = some f ∧ rowF tg ex l f = some x.fi ∧ x.idx = [i + j]
  | [], i, x => by simp [rowsFrom]
  | f :: fs, i, x => by
    simp only [rowsFrom, List.mem_append, rowsFrom_mem fs (i + 1) x]
    constructor
    · rintro (h | ⟨j, g, h1, h2, h3⟩)
      · cases hr : rowF tg ex l f with
        | none => rw [hr] at h; simp at h
        | some y =>
          rw [hr] at h
          simp at h
          subst h
          exact ⟨0, f, rfl, hr, rfl⟩
      · exact ⟨j + 1, g, by simpa using h1, h2, by rw [h3]; congr 1; omega⟩
    · rintro ⟨j, g, h1, h2, h3⟩
      cases j with
      | zero =>
        simp at h1
        subst h1
        refine .inl ?_
        rw [h2]
        obtain ⟨a, b⟩ := x
        simp at h3
        simp [h3]
      | succ j => exact .inr ⟨j, g, by simpa using h1, h2, by rw [h3]; congr 1; omega⟩
/-- The name's rules: of the field XMLName. -/
theorem xnFrom_none : ∀ (fs : List Fl) (i : Nat) (a : Option Fx), (∀ f ∈ fs, xnF tg ex l f = none) → xnFrom tg ex l i fs a = a
  | [], _, _, _ => rfl
  | f :: fs, i, a, h => by
    simp only [xnFrom, h f (by simp)]
    exact xnFrom_none fs (i + 1) a fun g hg => h g (by simp [hg])
theorem xnF_name {f : Fl} {x : Fi} (h : xnF tg ex l f = some x) : f.name = ⟨#[88, 77, 76, 78, 97, 109, 101]⟩ := by
  unfold xnF at h
  split at h
  · cases h
  · rename_i hc
    have hx : isX f = true := by
      cases hx : isX f with
      | true => rfl
      | false => rw [hx] at hc; simp at hc
    refine AL.beq_iff.1 ?_
    rw [show (⟨#[88, 77, 76, 78, 97, 109, 101]⟩ : ByteArray).toList = xmlNameL by decide +kernel]
    exact hx
/-- It is one field's, if there is one. -/
theorem xnFrom_one : ∀ (fs : List Fl) (i : Nat) (a : Option Fx) (f : Fl) (x : Fi), (fs.map Fl.name).Nodup → f ∈ fs → xnF tg ex l f = some x → ∃ j, xnFrom tg ex l i fs a = some ⟨x, [j]⟩
  | [], _, _, f, _, _, h, _ => by simp at h
  | g :: fs, i, a, f, x, hn, h, hx => by
    simp only [List.map_cons, List.nodup_cons] at hn
    rcases List.mem_cons.1 h with rfl | h
    · refine ⟨i, ?_⟩
      simp only [xnFrom, hx]
      refine xnFrom_none fs (i + 1) _ fun g hg => ?_
      cases hg2 : xnF tg ex l g with
      | none => rfl
      | some y =>
        refine absurd (List.mem_map.2 ⟨g, hg, ?_⟩) hn.1
        rw [xnF_name hg2, xnF_name hx]
    · simp only [xnFrom]
      exact xnFrom_one fs (i + 1) _ f x hn.2 h hx
theorem nodup_swap {α : Type} {a b : List α} (h : (a ++ b).Nodup) : (b ++ a).Nodup := by
  rw [List.nodup_append] at h ⊢
  exact ⟨h.2.1, h.1, fun x hx y hy e => h.2.2 y hy x hx e.symm⟩
/-- A rule that is met in the turned list. -/
def hitF (n len : Nat) (x y : Fx) : Prop := x.fi = y.fi ∧ ∃ i j, x.idx = [i] ∧ y.idx = [j] ∧ i = (j + n) % len
/-- What the two roads say. -/
theorem turned_gti {U V : List Fl} {n1 n2 : Nat} {t : Ti} (he : ∀ f ∈ U ++ V, f.emb = false) (hd : ((U ++ V).map Fl.name).Nodup) (hV : V ≠ []) (h : gti tg ex l (n1 + 1) (U ++ V) = .ok t) :
    ∃ t' : Ti, gti tg ex l (n2 + 1) (V ++ U) = .ok t' ∧ t.xn.isSome = t'.xn.isSome ∧ t.fs.length = t'.fs.length ∧ (∀ x y, t.xn = some x → t'.xn = some y → x.fi = y.fi) ∧ (∀ x ∈ t.fs, ∃ i, i < U.length + V.length ∧ x.idx = [i]) ∧ (∀ x ∈ t'.fs, ∃ i, i < U.length + V.length ∧ x.idx = [i]) ∧
      ∀ x ∈ t.fs, ∃ y ∈ t'.fs, hitF U.length (U.length + V.length) x y := by
  obtain ⟨h1, h2, rfl⟩ := (gti_flat t he).1 h
  have he' : ∀ f ∈ V ++ U, f.emb = false := fun f hf => he f (by simp only [List.mem_append] at hf ⊢; exact hf.symm)
  have h1' : ∀ f ∈ V ++ U, errF tg ex l f = false := fun f hf => h1 f (by simp only [List.mem_append] at hf ⊢; exact hf.symm)
  have h2' : NoC (rowsFrom tg ex l 0 (V ++ U)) := by
    rw [noC_fi, rowsFrom_fi, List.filterMap_append] at h2 ⊢
    exact (List.pairwise_append_comm (fun {x y} h => by rw [confl_comm]; exact h)).1 h2
  refine ⟨_, (gti_flat _ he').2 ⟨h1', h2', rfl⟩, ?_, ?_, ?_, fun x hx => ?_, fun x hx => ?_, ?_⟩
  · by_cases hx : ∃ f ∈ U ++ V, ∃ x, xnF tg ex l f = some x
    · obtain ⟨f, hf, x, hx⟩ := hx
      have hd' : ((V ++ U).map Fl.name).Nodup := by
        rw [List.map_append] at hd ⊢
        exact nodup_swap hd
      obtain ⟨j, hj⟩ := xnFrom_one (U ++ V) 0 none f x hd hf hx
      obtain ⟨j', hj'⟩ := xnFrom_one (V ++ U) 0 none f x hd' (by simp only [List.mem_append] at hf ⊢; exact hf.symm) hx
      rw [hj, hj']; rfl
    · have hno : ∀ f ∈ U ++ V, xnF tg ex l f = none := fun f hf => by
        cases h : xnF tg ex l f with
        | none => rfl
        | some x => exact absurd ⟨f, hf, x, h⟩ hx
      rw [xnFrom_none _ _ _ hno, xnFrom_none _ _ _ fun f hf => hno f (by simp only [List.mem_append] at hf ⊢; exact hf.symm)]
  · have e1 := congrArg List.length (rowsFrom_fi (tg := tg) (ex := ex) (l := l) (U ++ V) 0)
    have e2 := congrArg List.length (rowsFrom_fi (tg := tg) (ex := ex) (l := l) (V ++ U) 0)
    simp only [List.length_map, List.filterMap_append, List.length_append] at e1 e2
    show (rowsFrom tg ex l 0 (U ++ V)).length = (rowsFrom tg ex l 0 (V ++ U)).length
    omega
  · intro x y hx hy
    have hx : xnFrom tg ex l 0 (U ++ V) none = some x := hx
    have hy : xnFrom tg ex l 0 (V ++ U) none = some y := hy
    by_cases hq : ∃ f ∈ U ++ V, ∃ x, xnF tg ex l f = some x
    · obtain ⟨f, hf, z, hz⟩ := hq
      have hd' : ((V ++ U).map Fl.name).Nodup := by
        rw [List.map_append] at hd ⊢
        exact nodup_swap hd
      obtain ⟨j, hj⟩ := xnFrom_one (U ++ V) 0 none f z hd hf hz
      obtain ⟨j', hj'⟩ := xnFrom_one (V ++ U) 0 none f z hd' (by simp only [List.mem_append] at hf ⊢; exact hf.symm) hz
      rw [hj] at hx
      rw [hj'] at hy
      obtain rfl := Option.some.inj hx
      obtain rfl := Option.some.inj hy
      rfl
    · have hno : ∀ f ∈ U ++ V, xnF tg ex l f = none := fun f hf => by
        cases h : xnF tg ex l f with
        | none => rfl
        | some x => exact absurd ⟨f, hf, x, h⟩ hq
      rw [xnFrom_none _ _ _ hno] at hx
      cases hx
  · obtain ⟨j, f, hj, _, hi⟩ := (rowsFrom_mem (U ++ V) 0 x).1 hx
    have := (List.getElem?_eq_some_iff.1 hj).1
    rw [List.length_append] at this
    exact ⟨j, this, by simpa using hi⟩
  · obtain ⟨j, f, hj, _, hi⟩ := (rowsFrom_mem (V ++ U) 0 x).1 hx
    have := (List.getElem?_eq_some_iff.1 hj).1
    rw [List.length_append] at this
    exact ⟨j, by omega, by simpa using hi⟩
  · intro x hx
    obtain ⟨j, f, hj, hr, hi⟩ := (rowsFrom_mem (U ++ V) 0 x).1 hx
    have hVl : 0 < V.length := List.length_pos_iff.2 hV
    rcases Nat.lt_or_ge j U.length with hlt | hge
    · rw [List.getElem?_append_left hlt] at hj
      refine ⟨⟨x.fi, [V.length + j]⟩, (rowsFrom_mem (V ++ U) 0 _).2 ⟨V.length + j, f, ?_, hr, by simp⟩, rfl, j, V.length + j, by simpa using hi, rfl, ?_⟩
      · rw [List.getElem?_append_right (by omega)]
        rw [show V.length + j - V.length = j by omega]
        exact hj
      · rw [show V.length + j + U.length = j + (U.length + V.length) by omega, Nat.add_mod_right, Nat.mod_eq_of_lt (by omega)]
    · rw [List.getElem?_append_right hge] at hj
      have hjl := (List.getElem?_eq_some_iff.1 hj).1
      refine ⟨⟨x.fi, [j - U.length]⟩, (rowsFrom_mem (V ++ U) 0 _).2 ⟨j - U.length, f, ?_, hr, by simp⟩, rfl, j, j - U.length, by simpa using hi, rfl, ?_⟩
      · rw [List.getElem?_append_left hjl]
        exact hj
      · rw [show j - U.length + U.length = j by omega, Nat.mod_eq_of_lt (by omega)]
/-- An error on one road is one on the other. -/
theorem turned_err {U V : List Fl} {n1 n2 : Nat} {b : Bool} (he : ∀ f ∈ U ++ V, f.emb = false) (h : gti tg ex l (n1 + 1) (U ++ V) = .error b) : ∃ b', gti tg ex l (n2 + 1) (V ++ U) = .error b' := by
  cases h' : gti tg ex l (n2 + 1) (V ++ U) with
  | error b' => exact ⟨b', rfl⟩
  | ok t =>
    obtain ⟨h1, h2, _⟩ := (gti_flat t (fun f hf => he f (by simp only [List.mem_append] at hf ⊢; exact hf.symm))).1 h'
    have h2' : NoC (rowsFrom tg ex l 0 (U ++ V)) := by
      rw [noC_fi, rowsFrom_fi, List.filterMap_append] at h2 ⊢
      exact (List.pairwise_append_comm (fun {x y} h => by rw [confl_comm]; exact h)).1 h2
    have := (gti_flat (n := n1) (tg := tg) (ex := ex) (l := l) _ he).2 ⟨fun f hf => h1 f (by simp only [List.mem_append] at hf ⊢; exact hf.symm), h2', rfl⟩
    rw [h] at this
    cases this
end
end Go.Proofs.YtnmgocbmofbppaaGreatDoor
