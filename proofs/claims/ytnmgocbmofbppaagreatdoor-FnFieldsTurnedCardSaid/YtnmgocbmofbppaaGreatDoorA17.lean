/- Unquote, at a quotation mark of two strokes; its sizes. -/
import Derived.Test.YtnmgocbmofbppaaGreatDoorA16

set_option linter.unusedVariables false
set_option linter.unusedSimpArgs false

namespace Go.Proofs.YtnmgocbmofbppaaGreatDoor
open Go.RowKit

/-- What Unquote reads. -/
noncomputable def unqR (s : ByteArray) : Option ByteArray := match unqf s with
  | none => none
  | some (o, r) => if r.size = 0 then some o else none
theorem res2' {fn : Func} {t u : Tmp} (h : fn.results = #[.tmp t, .tmp u]) (tmps : Array Value) (P : Program) (w : World) :
    (results fn tmps).run P w = .ok (.tuple #[tmps.getD t undef, tmps.getD u undef]) w := by
  simp [results, h]
set_option maxHeartbeats 1000000 in
set_option maxRecDepth 100000 in
theorem Unquote_any (s : ByteArray) (h2 : 2 ≤ s.size) (hs : s.size ≤ 10000) (h34 : (s[0].toNat : Int) = 34) (w : World) (hT : ∀ w', Below w.heap.size w w' → Lib.Utf8Tabs 6 7 w') (hE : ErrS w) :
    Calls Tryz.prog 62 #[.string s] w fun e w' => Below w.heap.size w w' ∧ (∀ o, unqR s = some o → e = .returned (.tuple #[.string o, .nilIface])) ∧ (unqR s = none → ∃ a o, e = .returned (.tuple #[.string o, .iface 154 (.pointer (some a))])) := by
  have hc := unquote_any s h2 hs h34 w hT hE
  obtain ⟨ea, hea⟩ := hE
  have hg5 : (5 : Nat) < w.heap.size := lt_cell hea
  have HC := Lib.hid hc
  clear hc hT
  cases hu : unqf s with
  | none =>
    have hr : unqR s = none := by unfold unqR; rw [hu]
    rw [hu] at HC
    have hz : decide ((0 : Int) < (s.size : Int)) = true := decide_eq_true (by omega)
    go_enter Tryz.func62, Tryz.ntmps62
    go_upto_region 3 with (go_at_call 73; refine HC.out.mono ?_; rintro e w2 ⟨hb2, _, h3⟩; obtain ⟨a, rfl⟩ := h3 rfl)
    have he2 : w2.drew.cell? ⟨5, 0, none⟩ = some (.iface 154 (.pointer (some ea))) := (World.cell?_of_block (hb2.block 5 hg5)).trans hea
    go_region_held3 (fun w' => w'.cell? ⟨5, 0, none⟩ = some (.iface 154 (.pointer (some ea)))) (with_reducible exact he2) (fail)
    all_goals
      go_wp2_with fail
      (try simp only [Exit.inBlock, Exit.then])
      refine bodyPost_ret (res2' rfl _ _ _) rfl ?_
      exact ⟨hb2.drew, (fun o e => by rw [hr] at e; cases e), fun _ => ⟨ea, _, rfl⟩⟩
  | some p =>
    obtain ⟨o, r⟩ := p
    rw [hu] at HC
    by_cases h0 : r.size = 0
    · have hr : unqR s = some o := by unfold unqR; rw [hu]; exact if_pos h0
      have hz : decide ((0 : Int) < (r.size : Int)) = false := decide_eq_false (by omega)
      go_enter Tryz.func62, Tryz.ntmps62
      go_wp2_with (go_at_call 73; refine HC.out.mono ?_; rintro e w2 ⟨hb2, h3, _⟩; obtain rfl := h3 o r rfl)
      (try simp only [Exit.inBlock, Exit.then])
      refine bodyPost_ret (res2' rfl _ _ _) rfl ?_
      exact ⟨hb2, (fun o' e => by rw [hr] at e; obtain rfl := Option.some.inj e; rfl), fun e => by rw [hr] at e; cases e⟩
    · have hr : unqR s = none := by unfold unqR; rw [hu]; exact if_neg h0
      have hz : decide ((0 : Int) < (r.size : Int)) = true := decide_eq_true (by omega)
      go_enter Tryz.func62, Tryz.ntmps62
      go_upto_region 3 with (go_at_call 73; refine HC.out.mono ?_; rintro e w2 ⟨hb2, h3, _⟩; obtain rfl := h3 o r rfl)
      have he2 : w2.drew.cell? ⟨5, 0, none⟩ = some (.iface 154 (.pointer (some ea))) := (World.cell?_of_block (hb2.block 5 hg5)).trans hea
      go_region_held3 (fun w' => w'.cell? ⟨5, 0, none⟩ = some (.iface 154 (.pointer (some ea)))) (with_reducible exact he2) (fail)
      all_goals
        go_wp2_with fail
        (try simp only [Exit.inBlock, Exit.then])
        refine bodyPost_ret (res2' rfl _ _ _) rfl ?_
        exact ⟨hb2.drew, (fun o e => by rw [hr] at e; cases e), fun _ => ⟨ea, _, rfl⟩⟩
theorem strOfNums_size (l : List Int) : (strOfNums l).size = l.length := by
  simp [strOfNums, ByteArray.size]
theorem slow_size : ∀ (n : Nat) (s : ByteArray) (buf b : List Int) (t : ByteArray), slow n s buf = some (b, t) → b.length ≤ buf.length + 3 * s.size
  | 0, _, _, _, _, h => by cases h
  | n + 1, s, buf, b, t, h => by
    unfold slow at h
    split at h
    · cases h
    · split at h
      · obtain ⟨rfl, _⟩ : buf = b ∧ s.extract 1 s.size = t := by simpa using h
        omega
      · cases hu : uqf s with
        | none => rw [hu] at h; cases h
        | some o =>
          obtain ⟨r, mb, rem⟩ := o
          obtain ⟨h1, h2⟩ := uqf_ok s r mb rem hu
          rw [hu] at h
          simp only at h
          split at h
          · cases h
          · have h3 := slow_size n rem _ b t h
            simp only [List.length_append] at h3
            have h4 : (pieceU r mb).length ≤ 3 * (s.size - rem.size) := by
              unfold pieceU
              split
              · simp; omega
              · rename_i hn
                have hmb : mb = true := by
                  cases mb
                  · exact absurd (.inr rfl) hn
                  · rfl
                have := (h2 hmb).2.2
                simpa [Lib.runeCells] using this
            omega
theorem unqR_size {s o : ByteArray} (h : unqR s = some o) : o.size ≤ 3 * s.size := by
  unfold unqR at h
  cases hu : unqf s with
  | none => rw [hu] at h; cases h
  | some p =>
    obtain ⟨a, r⟩ := p
    rw [hu] at h
    simp only at h
    split at h
    · obtain rfl := Option.some.inj h
      unfold unqf at hu
      simp only at hu
      split at hu
      · cases hu
      · split at hu
        · obtain ⟨rfl, _⟩ : s.extract 1 _ = a ∧ s.extract _ s.size = r := by simpa using hu
          simp
          omega
        · cases hs : slow (s.size + 1) (s.extract 1 s.size) [] with
          | none => rw [hs] at hu; cases hu
          | some q =>
            obtain ⟨b, t⟩ := q
            rw [hs] at hu
            obtain ⟨rfl, _⟩ : strOfNums b = a ∧ t = r := by simpa using hu
            have := slow_size _ _ _ _ _ hs
            simp at this
            rw [strOfNums_size]
            omega
    · cases h
end Go.Proofs.YtnmgocbmofbppaaGreatDoor
