/- From what typeOf leaves to what ZZFields asks. Plain. -/
import Derived.Test.YtnmgocbmofbppaaGreatDoorA32
import Derived.Test.YtnmgocbmofbppaaGreatDoorA27

set_option linter.unusedVariables false
set_option linter.unusedSimpArgs false

namespace Go.Proofs.YtnmgocbmofbppaaGreatDoor
open Go.RowKit

/-- The fields of a struct, or of a named one. -/
def fsOf (l : AL Ty) (T : Ty) : List Fl := if T.kind = 14 then (envT l T.s).fields else T.fields
/-- A struct, named or not. -/
def StrK (l : AL Ty) (T : Ty) : Prop := T.kind = 13 ∨ T.kind = 14 ∧ (envT l T.s).kind = 13
/-- What ZZFields asks of a struct's block. -/
structure Ready (n0 : Nat) (w : World) (am : Am) (l : AL Ty) (T : Ty) (y : Nat) : Prop where
  fds : Fds n0 w am l (fsOf l T) y
  c0 : w.cell? ⟨y, 0, none⟩ = some (.int .u8 18)
  c6 : ∃ m, w.cell? ⟨y, 6, none⟩ = some (.int .i64 m) ∧ m ≠ 4
  nil : Nil7 w y
  name : ∀ s, am s = some y → (envT l s).fields = fsOf l T ∧ (envT l s).kind = 13
  cn : ∃ n d, d ≤ 1000000 ∧ Cn l n (fsOf l T) d
  emb : ∀ s, (envT l s).kind = 13 → (∀ f ∈ (envT l s).fields, embOk f) ∧ ((envT l s).fields.map Fl.name).Nodup
  nd : ((fsOf l T).map Fl.name).Nodup
theorem Graph.emb {n0 : Nat} {w : World} {am : Am} {l : AL Ty} (hg : Graph n0 w am l) {s : ByteArray} (hk : (envT l s).kind = 13) : (∀ f ∈ (envT l s).fields, embOk f) ∧ ((envT l s).fields.map Fl.name).Nodup := by
  cases h : l.get s with
  | none =>
    have : envT l s = zeroTy := by unfold envT; rw [h]; rfl
    rw [this] at hk
    exact absurd hk (by decide)
  | some T =>
    have he : envT l s = T := by unfold envT; rw [h]; rfl
    rw [he] at hk ⊢
    have hm := get_mem l s T h
    obtain ⟨b, hb⟩ := hg.made _ hm
    obtain ⟨_, T', hT', _, e, ke, A, fl, fc, hTB, hO, hE, h13, hF⟩ := hg.done _ b hb
    have : T' = T := by
      rw [h] at hT'
      exact (Option.some.inj hT').symm
    subst this
    obtain ⟨_, h2, h3⟩ := h13 hk
    exact ⟨h3, h2⟩
theorem ready_of {n0 : Nat} {w : World} {am : Am} {l : AL Ty} {T : Ty} {y : Nat} (hg : Graph n0 w am l) (hs : NdSz l) (hr : RT w (Fr n0 w am) am T y) (hwf : T.wf) (hsz : T.sz ≤ 2000) (hw : WaysOk l T) (hk : StrK l T) : Ready n0 w am l T y := by
  obtain ⟨c, hc, hwc⟩ := hw
  have hq := cnQ_of (fun s h => (hg.emb h).1) hwc
  rcases hk with hk | ⟨hk, hk2⟩
  · have hfs : fsOf l T = T.fields := if_neg (by rw [hk]; decide)
    obtain ⟨k, n, s, of, fs⟩ := T
    obtain rfl : k = 13 := hk
    unfold RT at hr
    rw [if_neg (by decide)] at hr
    obtain ⟨h0, h7, nm, hn, hn2, e, ke, A, fl, fc, hTB, hO, hE, h13, hF⟩ := hr
    obtain ⟨h1, h2, h3⟩ := h13 rfl
    have hfd : Fds n0 w am l fs y := by
      refine ⟨⟨A, fc, by rw [hTB.c5, h1], hF⟩, h3, ?_, ?_⟩
      · simp only [Ty.sz] at hsz
        omega
      · unfold Ty.wf at hwf
        exact hwf.2.2.2.2
    obtain ⟨d, hd, hcn⟩ := hq.1 rfl h3
    exact ⟨by rw [hfs]; exact hfd, hTB.c0, ⟨_, hTB.c6, by decide⟩, h7, fun s e => absurd e (h0.2.2 s), ⟨c, d, by omega, by rw [hfs]; exact hcn⟩, fun s h => hg.emb h, by rw [hfs]; exact h2⟩
  · have hfs : fsOf l T = (envT l T.s).fields := if_pos hk
    obtain ⟨k, n, s, of, fs⟩ := T
    obtain rfl : k = 14 := hk
    unfold RT at hr
    rw [if_pos rfl] at hr
    obtain ⟨h1, h2⟩ := named_fds hg.gnm hs hr hk2
    obtain ⟨h7, T', hT', hRN⟩ := hg.done s y hr
    have he : envT l s = T' := by unfold envT; rw [hT']; rfl
    obtain ⟨_, e, ke, A, fl, fc, hTB, hO, hE, h13, hF⟩ := hRN
    obtain ⟨d, hd, hcn⟩ := hq.2.1 rfl hk2
    refine ⟨by rw [hfs]; exact h2, h1, ⟨_, hTB.c6, ?_⟩, h7, fun s' e => ?_, ⟨c, d, by omega, by rw [hfs]; exact hcn⟩, fun s h => hg.emb h, by rw [hfs]; exact (hg.emb hk2).2⟩
    · have : T'.kind = 13 := by rw [← he]; exact hk2
      rw [this]
      decide
    · obtain ⟨_, T2, hT2, _, e2, ke2, A2, fl2, fc2, hTB2, _⟩ := hg.done s' y e
      have : s' = s := by
        have h3 := hTB2.c1
        rw [hTB.c1] at h3
        injection h3 with h3
        injection h3 with h3
        exact h3.symm
      subst this
      exact ⟨hfs.symm, hk2⟩
/-- All Info is nil. -/
theorem Graph.infoAll {n0 : Nat} {w : World} {am : Am} {l : AL Ty} (hg : Graph n0 w am l) (tg : ByteArray → ByteArray) (ex : ByteArray → Bool) : InfoAll tg ex l am w fun _ => False := fun s b e _ => by
  obtain ⟨h7, _⟩ := hg.done s b e
  exact ⟨h7.2, .inl h7.1⟩
end Go.Proofs.YtnmgocbmofbppaaGreatDoor
