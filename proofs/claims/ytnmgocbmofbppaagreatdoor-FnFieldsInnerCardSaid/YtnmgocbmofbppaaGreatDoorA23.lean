/- lookupXMLName. addFieldInfo: what it is to do; a type's rules in memory. Plain. -/
import Derived.Test.YtnmgocbmofbppaaGreatDoorA22
import Derived.Test.YtnmgocbmofbppaaGreatDoorA11
import Derived.KernelRfl
import Derived.Outline
import Derived.BigGuardPart
import Derived.Deep.DeepMust
import Derived.Deep.LoopGhost
import Derived.Deep.DeepCutAuto
import Derived.Deep.CutBlock
import Derived.Deep.QuietTactic
import Derived.BigQuiet
import Derived.Lib.Hide
import Derived.WalkSpells
import Derived.Deep.Light
import Derived.Deep.RegionWith
import Derived.WalkLawsBesides
import Derived.StillTailTactics

set_option linter.unusedVariables false
set_option linter.unusedSimpArgs false

namespace Go.Proofs.YtnmgocbmofbppaaGreatDoor
open Go.RowKit

theorem StrC_of {n0 B : Nat} {w : World} {am : Am} {l : AL Ty} {T : Ty} {y : Nat} (hg : GNm n0 w am l) (ht : Tabs B w) (hB : B ≤ w.heap.size) (hwf : T.wf) (hsz : T.sz ≤ 2000) (hr : RT w (Fr n0 w am) am T y) : StrC w y := fun w' hb =>
  (String_any T.sz T y w' (Nat.le_refl _) hsz hwf (hg.keep (Ext.of_below hb)) (ht.keep (hb.mono hB)) (Nat.le_trans hB hb.size) (hr.fkeep (Ext.of_below hb))).mono fun e w2 h => h.mono (by omega)
theorem extract_le (s : ByteArray) (a b : Nat) : (s.extract a b).size ≤ s.size := by simp; omega
theorem nsOf_size (s : ByteArray) : (nsOf s).1.size ≤ s.size ∧ (nsOf s).2.size ≤ s.size := by
  unfold nsOf cutOf
  cases ix s ⟨#[32]⟩ 0 with
  | none => exact ⟨Nat.zero_le _, Nat.le_refl _⟩
  | some i => exact ⟨extract_le _ _ _, extract_le _ _ _⟩
theorem flagsOf_size {xn : Bool} {tag t : ByteArray} {fl : Int} (h : flagsOf xn tag = some (t, fl)) : t.size ≤ tag.size := by
  have hl := split_len tag ⟨#[44]⟩ (by decide)
  unfold flagsOf at h
  cases hs : splitOf tag ⟨#[44]⟩ with
  | nil => rw [hs] at h; cases h
  | cons a r =>
    rw [hs] at h hl
    cases r with
    | nil => simp only [Option.some.injEq, Prod.mk.injEq] at h; rw [← h.1]; exact Nat.le_refl _
    | cons b r =>
      simp only at h
      split at h
      · simp only [Option.some.injEq, Prod.mk.injEq] at h
        rw [← h.1]
        exact hl.2 a (by simp)
      · cases h
theorem sfi_xn_size {tg : ByteArray → ByteArray} {lk : Lk} {name tag : ByteArray} {fi : Fi} (h : sfi tg lk name tag = some fi) (hxn : (name.toList == xmlNameL) = true) : fi.name.size ≤ (tg tag).size := by
  unfold sfi at h
  rw [hxn] at h
  cases hf : flagsOf true (nsOf (tg tag)).2 with
  | none => rw [hf] at h; cases h
  | some p =>
    obtain ⟨t, fl⟩ := p
    rw [hf] at h
    simp only [sfi2] at h
    split at h
    · cases h
    · simp only [if_true, Option.some.injEq] at h
      rw [← h]
      exact Nat.le_trans (flagsOf_size hf) (nsOf_size _).2
/-- The rules of a named element of a type. -/
def LkPost (w : World) (lk : Lk) (e : Ending) (w2 : World) : Prop := Below w.heap.size w w2 ∧ ((lk = none → e = .returned (.pointer none)) ∧ ∀ ns nm, lk = some (ns, nm) → ∃ fp, e = .returned (.pointer (some ⟨fp, 0, none⟩)) ∧ w.heap.size ≤ fp ∧ w2.cell? ⟨fp, 1, none⟩ = some (.string nm) ∧ w2.cell? ⟨fp, 2, none⟩ = some (.string ns) ∧ nm.size ≤ 10000)
theorem LkPost.lkc {w : World} {b : Nat} {lk : Lk} (h : ∀ w', Below w.heap.size w w' → Calls Tryz.prog 67 #[.pointer (some ⟨b, 0, none⟩)] w' (LkPost w' lk)) : LkC w b lk := fun w' hb => (h w' hb).mono fun e w2 ⟨h1, h2, h3⟩ => ⟨h1, by
  cases lk with
  | none => exact h2 rfl
  | some p => exact h3 p.1 p.2 rfl⟩
theorem not_xml {s : ByteArray} (h : s.size ≤ 5) : (s.toList == [88, 77, 76, 78, 97, 109, 101]) = false := by
  rw [Bool.eq_false_iff]
  intro e
  have e2 : s.toList = [88, 77, 76, 78, 97, 109, 101] := eq_of_beq e
  have h7 : s.toList.length = 7 := congrArg List.length e2
  rw [ByteArray.toList_eq] at h7
  have h2 : s.size = s.data.toList.length := by rw [Array.length_toList]; rfl
  omega

theorem bare_sz {n0 : Nat} {w : World} {am : Am} {l : AL Ty} (_hg : GNm n0 w am l) (hs : NdSz l) (T : Ty) (hwf : T.wf) (hsz : T.sz ≤ 2000) (h12 : T.kind ≠ 12) : szf (bare T l) ≤ 2000 ∧ wff (bare T l) := by
  obtain ⟨k, n, s, of, fs⟩ := T
  unfold bare
  split
  · unfold envT
    cases he : AL.get l s with
    | none => exact ⟨Nat.zero_le _, trivial⟩
    | some T =>
      have hm := hs _ (get_mem l s T he)
      obtain ⟨k', n', s', of', fs'⟩ := T
      have h1 := hm.1
      have h2 := hm.2
      unfold Ty.wf at h1
      simp only [Ty.sz] at h2
      exact ⟨by show szf fs' ≤ 2000; omega, h1.2.2.2.2⟩
  · split
    · unfold Ty.wf at hwf
      simp only [Ty.sz] at hsz
      exact ⟨by omega, hwf.2.2.2.2⟩
    · rw [if_neg (show ¬ k = 12 from h12)]
      exact ⟨Nat.zero_le _, trivial⟩

set_option maxHeartbeats 1600000 in
set_option maxRecDepth 100000 in
theorem lookup_any {tg : ByteArray → ByteArray} {n0 B : Nat} {am : Am} {l : AL Ty} (hTg : TagC tg B) (T : Ty) (y : Nat) (w : World) (hg : GNm n0 w am l) (hs : NdSz l) (ht : Tabs B w) (hB : B ≤ w.heap.size) (hwf : T.wf) (hsz : T.sz ≤ 2000)
    (hr : RT w (Fr n0 w am) am T y) : Calls Tryz.prog 67 #[.pointer (some ⟨y, 0, none⟩)] w (LkPost w (lkOf tg (bare T l))) := by
  obtain ⟨L, hL⟩ : ∃ L, lkOf tg (bare T l) = L := ⟨_, rfl⟩
  rw [hL]
  have HG := Lib.hid hg
  have HS := Lib.hid hs
  have HT := Lib.hid ht
  have HTG := Lib.hid hTg
  have HR := Lib.hid hr
  have HL := Lib.hid hL
  clear hg hs ht hTg hr hL
  go_enter Tryz.func67, Tryz.ntmps67
  go_wp2_with fail
  go_loopg [0] T.sz (fun gk s0 wr => ∃ T' y', s0 = .pointer (some ⟨y', 0, none⟩) ∧ w = wr ∧ T'.sz ≤ gk ∧ T'.sz ≤ 2000 ∧ T'.wf ∧ RT w (Fr n0 w am) am T' y' ∧ lkOf tg (bare T' l) = L)
  case atStart => exact ⟨T, y, rfl, rfl, Nat.le_refl _, hsz, hwf, HR.out, HL.out⟩
  case round =>
    clear HR HL hwf hsz
    obtain ⟨T', y', rfl, rfl, hgk, hsz, hwf, hr, hL⟩ := hrel
    obtain ⟨K, hK, h17, hn18, h12, h18⟩ := (head_of HG.out HS.out hwf hr).kind
    have hkk := Kind_any w y' K hK
    have HKK := Lib.hid hkk
    clear hkk
    by_cases hk : K = 17
    · obtain ⟨t, x, hof, hc2, hx⟩ := h12 (h17.1 hk)
      have hel := Elem_any w y' _ hc2
      have HEL := Lib.hid hel
      have hT' : T'.kind = 12 := h17.1 hk
      have hb : bare T' l = bare t l := by
        obtain ⟨k, n, s, of, fs⟩ := T'
        simp only [Ty.kind, Ty.of] at hT' hof
        subst hT' hof
        conv => lhs; unfold bare
        rw [if_neg (by decide), if_neg (by decide), if_pos rfl]
      have hts : t.sz + 1 ≤ T'.sz ∧ t.wf := by
        obtain ⟨k, n, s, of, fs⟩ := T'
        simp only [Ty.of] at hof
        subst hof
        unfold Ty.wf at hwf
        refine ⟨?_, hwf.2.2.2.1.1⟩
        simp only [Ty.sz, szs]
        omega
      have HX := Lib.hid hx
      rw [hb] at hL
      have HL := Lib.hid hL
      clear hx hel h12 h18 hr hof hb hn18 hc2 hL hwf hK hT'
      subst hk
      go_wp2_with (first
        | (go_at_call 38; refine HKK.out.mono ?_; rintro e w2 ⟨rfl, rfl⟩)
        | (go_at_call 44; refine HEL.out.mono ?_; rintro e w2 ⟨rfl, rfl⟩))
      go_roundg t.sz
      case measure => omega
      case rel => exact ⟨t, x, rfl, rfl, Nat.le_refl _, by omega, hts.2, HX.out, HL.out⟩
    · by_cases hk18 : K = 18
      · subst hk18
        obtain ⟨A, n, c, hc5, hcase⟩ := h18 rfl
        have hszb : szf (bare T' l) ≤ 2000 ∧ wff (bare T' l) := bare_sz HG.out HS.out T' hwf hsz (fun e => hk (h17.2 e))
        have hlen := szf_len (bare T' l)
        have hn1 : n ≤ 1000000 := by rcases hcase with ⟨h1, _⟩ | ⟨_, h1, _⟩ <;> omega
        have hnf := NumField_any w y' A n c hn1 hc5
        have HNF := Lib.hid hnf
        have hstr := StrC_of HG.out HT.out hB hwf hsz hr
        have HSTR := Lib.hid hstr
        have hy' : y' < w.heap.size := lt_cell hc5
        have HL := Lib.hid hL
        have HC := Lib.hid hcase
        clear hnf hstr hcase h12 h18 hr hL h17 hn18
        go_wp2_with (first
          | (go_at_call 38; refine HKK.out.mono ?_; rintro e w2 ⟨rfl, rfl⟩)
          | (go_at_call 40; refine HNF.out.mono ?_; rintro e w2 ⟨rfl, rfl⟩))
        rcases HC.out with ⟨hn, hnd, hem, hRF⟩ | ⟨hbe, hn2, fb, rfl, hFC⟩
        · have HRF := Lib.hid hRF
          have hnl1 : n ≤ (bare T' l).length := by omega
          have hnl2 : (bare T' l).length ≤ n := by omega
          clear hRF HC hn
          go_loopw [3] (fun s3 wr => ∃ j : Nat, s3 = .int .i64 j ∧ j ≤ n ∧ Below w.heap.size w wr ∧ lkOf tg ((bare T' l).drop j) = L) (fun s3 _ => n - (intOf s3).toNat)
          case atStart => exact ⟨0, rfl, Nat.zero_le _, Below.refl _ _, HL.out⟩
          case round =>
            obtain ⟨j, rfl, hj, hb, hL⟩ := hrel
            by_cases hlt : j < n
            · obtain ⟨f, hf⟩ : ∃ f, (bare T' l)[j]? = some f := ⟨_, List.getElem?_eq_getElem (by omega)⟩
              obtain ⟨fb, x, rfl, _, hFC, hx⟩ := RF.at_ _ _ 0 j f (HRF.out.fkeep (Ext.of_below hb)) hf
              rw [Nat.zero_add] at hFC
              have hc5' : wr.cell? ⟨y', 5, none⟩ = some (.slice (some ⟨fb, 0, none⟩) n c) := (World.cell?_of_block (hb.block y' hy')).trans hc5
              have hfl := Field_any wr y' fb n c j f.name f.tag x f.emb hn1 hlt hc5' hFC
              have hfz := fl_sz _ j f hf
              have hdrop : (bare T' l).drop j = f :: (bare T' l).drop (j + 1) := by
                rw [List.drop_eq_getElem_cons (by omega)]
                congr 1
                rw [List.getElem?_eq_getElem (by omega)] at hf
                exact Option.some.inj hf
              rw [hdrop] at hL
              have HF := Lib.hid hfl
              have HBW := Lib.hid hb
              clear hfl hc5' hFC hx hb hdrop
              obtain ⟨xn, hxn⟩ : ∃ xn, (f.name.toList == [88, 77, 76, 78, 97, 109, 101]) = xn := ⟨_, rfl⟩
              cases xn with
              | false =>
                have hL2 : lkOf tg ((bare T' l).drop (j + 1)) = L := by
                  rw [← hL]
                  conv => rhs; unfold lkOf
                  rw [show (f.name.toList == xmlNameL) = false from hxn]
                  rfl
                have HL2 := Lib.hid hL2
                clear hL hL2
                go_wp2_with (go_at_call 41; refine HF.out.mono ?_; rintro e w2 ⟨rfl, hb2⟩; have HB2 := Lib.hid (HBW.out.trans (hb2.mono HBW.out.size)); clear hb2)
                go_roundw
                case rel => exact ⟨j + 1, by go_num, by omega, HB2.out.alloc HB2.out.size _, HL2.out⟩
                case measure => simp [intOf]; omega
              | true =>
                have hL2 : (match sfi tg none f.name f.tag with | some x => if x.name.toList.isEmpty then none else some (x.xmlns, x.name) | none => none) = L := by
                  rw [← hL]
                  conv => rhs; unfold lkOf
                  rw [show (f.name.toList == xmlNameL) = true from hxn]
                  rfl
                have HL2 := Lib.hid hL2
                clear hL hL2
                go_upto_region 9 with (go_at_call 41; refine HF.out.mono ?_; rintro e w2 ⟨rfl, hb2⟩; refine Hid.out ?_)
                refine Lib.hid ?_
                have hbw2 := HBW.out.trans (hb2.mono HBW.out.size)
                have hba := hbw2.alloc hbw2.size (.cells #[.string f.name, .string f.tag, .pointer (some ⟨x, 0, none⟩), .bool f.emb] 116)
                have hfc : FC (w2.alloc (.cells #[.string f.name, .string f.tag, .pointer (some ⟨x, 0, none⟩), .bool f.emb] 116)) w2.heap.size 0 f.name f.tag x f.emb := ⟨by simp [go_sem], by simp [go_sem], by simp [go_sem], by simp [go_sem]⟩
                have hsf := sfi_any HTG.out (w2.alloc (.cells #[.string f.name, .string f.tag, .pointer (some ⟨x, 0, none⟩), .bool f.emb] 116)) y' w2.heap.size x f.name f.tag f.emb j none (HT.out.keep (hba.mono hB)) (Nat.le_trans hB hba.size) hfc (by omega) (by omega) (HSTR.out.keep hba) (fun e => by rw [show (f.name.toList == xmlNameL) = true from hxn] at e; cases e)
                have hsx : ∀ fi, sfi tg none f.name f.tag = some fi → fi.name.size ≤ 10000 := fun fi e => by
                  have h1 := sfi_xn_size e hxn
                  have h2 := HTG.out.1 f.tag
                  omega
                have HSF := Lib.hid hsf
                have HBA := Lib.hid hba
                have HSX := Lib.hid hsx
                have b0 := hfc.c0
                have hsz2 := hbw2.size
                clear hsf hba hsx hfc hbw2 hb2
                cases hs : sfi tg none f.name f.tag with
                | none =>
                  rw [hs] at HSF HL2
                  obtain rfl : none = L := HL2.out
                  go_wp2_with (go_at_call 46; refine HSF.out.mono ?_; rintro e w3 ⟨hb3, _, he⟩; obtain ⟨eb, es, rfl, _, _⟩ := he rfl; have HB3 := Lib.hid (HBA.out.trans (hb3.mono HBA.out.size)); clear hb3 he)
                  go_ret
                  exact ⟨HB3.out, fun _ => rfl, fun ns nm e => by cases e⟩
                | some fi =>
                  rw [hs] at HSF HL2
                  have hfz2 := HSX.out fi hs
                  obtain ⟨fn, fx, ff, fps⟩ := fi
                  have HL3 : (if fn.toList.isEmpty then none else some (fx, fn)) = L := HL2.out
                  have HL4 := Lib.hid HL3
                  clear HL3 HL2
                  go_wp2_with (go_at_call 46; refine HSF.out.mono ?_; rintro e w3 ⟨hb3, he, _⟩; obtain ⟨fp, rfl, hge, hfi⟩ := he _ rfl; refine Hid.out ?_)
                  refine Lib.hid ?_
                  have HB3 := Lib.hid (HBA.out.trans (hb3.mono HBA.out.size))
                  have h31 : w3.cell? ⟨fp, 1, none⟩ = some (.string fn) := hfi.c1
                  have h32 : w3.cell? ⟨fp, 2, none⟩ = some (.string fx) := hfi.c2
                  have hge2 : w.heap.size ≤ fp := by simp at hge; omega
                  clear hb3 he hfi
                  cases hq : fn.toList.isEmpty with
                  | true =>
                    obtain rfl : none = L := by have := HL4.out; rw [hq] at this; exact this
                    go_wp2_with fail
                    go_ret
                    exact ⟨HB3.out, fun _ => rfl, fun ns nm e => by cases e⟩
                  | false =>
                    obtain rfl : some (fx, fn) = L := by have := HL4.out; rw [hq] at this; exact this
                    go_wp2_with fail
                    go_ret
                    refine ⟨HB3.out, (fun e => by cases e), fun ns nm e => ?_⟩
                    simp only [Option.some.injEq, Prod.mk.injEq] at e
                    obtain ⟨rfl, rfl⟩ := e
                    exact ⟨fp, rfl, hge2, h31, h32, hfz2⟩
            · have hdr : (bare T' l).drop j = [] := List.drop_eq_nil_of_le (by omega)
              rw [hdr] at hL
              obtain rfl : none = L := hL
              have HBW := Lib.hid hb
              clear hb hdr
              go_wp2_with fail
              go_ret
              exact ⟨HBW.out, fun _ => rfl, fun ns nm e => by cases e⟩
        · have HFC := Lib.hid hFC
          obtain rfl : none = L := by have := HL.out; rw [hbe] at this; exact this
          have hnl1 : n ≤ 2 := by omega
          have hnl2 : 2 ≤ n := by omega
          clear hFC HC hbe hszb hlen HL hn2
          go_loopw [3] (fun s3 wr => ∃ j : Nat, s3 = .int .i64 j ∧ j ≤ n ∧ Below w.heap.size w wr) (fun s3 _ => n - (intOf s3).toNat)
          case atStart => exact ⟨0, rfl, Nat.zero_le _, Below.refl _ _⟩
          case round =>
            obtain ⟨j, rfl, hj, hb⟩ := hrel
            by_cases hlt : j < n
            · obtain ⟨name, tag, t, emb, hc, hnz⟩ := HFC.out j (by omega)
              have hxn := not_xml hnz
              have hfb : fb < w.heap.size := lt_cell hc.c0
              have hc5' : wr.cell? ⟨y', 5, none⟩ = some (.slice (some ⟨fb, 0, none⟩) n c) := (World.cell?_of_block (hb.block y' hy')).trans hc5
              have hfl := Field_any wr y' fb n c j name tag t emb hn1 hlt hc5' (hc.keep (hb.block fb hfb))
              have HF := Lib.hid hfl
              have HBW := Lib.hid hb
              clear hfl hc5' hc hb
              go_wp2_with (go_at_call 41; refine HF.out.mono ?_; rintro e w2 ⟨rfl, hb2⟩; have HB2 := Lib.hid (HBW.out.trans (hb2.mono HBW.out.size)); clear hb2)
              go_roundw
              case rel => exact ⟨j + 1, by go_num, by omega, HB2.out.alloc HB2.out.size _⟩
              case measure => simp [intOf]; omega
            · have HBW := Lib.hid hb
              clear hb
              go_wp2_with fail
              go_ret
              exact ⟨HBW.out, fun _ => rfl, fun ns nm e => by cases e⟩
      · have hb0 : bare T' l = [] := by
          rcases hn18 hk18 with h | h
          · exact h
          · exact absurd (h17.2 h) hk
        obtain rfl : none = L := by have := hL; rw [hb0] at this; exact this
        clear h12 h18 hr hL h17 hn18 hb0
        go_wp2_with (go_at_call 38; refine HKK.out.mono ?_; rintro e w2 ⟨rfl, rfl⟩)
        go_ret
        exact ⟨Below.refl _ _, fun _ => rfl, fun ns nm e => by cases e⟩
end Go.Proofs.YtnmgocbmofbppaaGreatDoor
namespace Go.Proofs.YtnmgocbmofbppaaGreatDoor
open Go.RowKit

/-- A field's rules, and the way to it. -/
structure Fx where
  fi : Fi
  idx : List Nat
/-- Two paths agree as far as both go. -/
def preOk : List ByteArray → List ByteArray → Bool
  | a :: l, b :: l' => (a.toList == b.toList) && preOk l l'
  | _, _ => true
def tailC (o n : Fi) : Bool :=
  if n.parents.length < o.parents.length then ((o.parents[n.parents.length]?).getD ⟨#[]⟩).toList == n.name.toList
  else if o.parents.length < n.parents.length then ((n.parents[o.parents.length]?).getD ⟨#[]⟩).toList == o.name.toList
  else (n.name.toList == o.name.toList) && (n.xmlns.toList == o.xmlns.toList)
/-- Two fields conflict. -/
def confl (o n : Fi) : Bool :=
  decide (fAnd o.flags 127 = fAnd n.flags 127) && !(!o.xmlns.toList.isEmpty && !n.xmlns.toList.isEmpty && !(o.xmlns.toList == n.xmlns.toList)) && preOk o.parents n.parents && tailC o n
/-- A field is added; none: it conflicts. -/
def addFx (fs : List Fx) (new : Fx) : Option (List Fx) :=
  let cs := fs.filter fun o => confl o.fi new.fi
  if cs.isEmpty then some (fs ++ [new])
  else if cs.any fun o => decide (o.idx.length < new.idx.length) then some fs
  else if cs.any fun o => decide (o.idx.length = new.idx.length) then none
  else some ((fs.filter fun o => !confl o.fi new.fi) ++ [new])

/-- The five cells of a field's rules; the blocks that they lead to satisfy ok. -/
def FxQ (w : World) (ok : Nat → Prop) (vs : List Value) (x : Fx) : Prop :=
  ∃ (ib ic : Nat) (A : Option Addr) (pc : Nat), vs = [.slice (some ⟨ib, 0, none⟩) x.idx.length ic, .string x.fi.name, .string x.fi.xmlns, .int .i64 x.fi.flags, .slice A x.fi.parents.length pc] ∧
    ok ib ∧ (∀ j y : Nat, x.idx[j]? = some y → w.cell? ⟨ib, j, none⟩ = some (.int .i64 (y : Int))) ∧ x.idx ≠ [] ∧ x.idx.length ≤ 1000000 ∧ x.fi.parents.length ≤ 1000000 ∧
    ∀ j y, x.fi.parents[j]? = some y → ∃ g, A = some ⟨g, 0, none⟩ ∧ ok g ∧ w.cell? ⟨g, j, none⟩ = some (.string y)
theorem FxQ.keep {w w' : World} {ok ok' : Nat → Prop} {vs : List Value} {x : Fx} (h : FxQ w ok vs x) (hk : ∀ b, b < w.heap.size → ok b → ok' b ∧ w'.heap[b]? = w.heap[b]?) : FxQ w' ok' vs x := by
  obtain ⟨ib, ic, A, pc, h1, h2, h3, h4, h5, h6, h7⟩ := h
  have hib : ib < w.heap.size := by
    obtain ⟨y, hy⟩ : ∃ y, x.idx[0]? = some y := ⟨_, List.getElem?_eq_getElem (List.length_pos_iff.2 h4)⟩
    exact lt_cell (h3 0 y hy)
  refine ⟨ib, ic, A, pc, h1, (hk ib hib h2).1, fun j y e => (World.cell?_of_block (hk ib hib h2).2).trans (h3 j y e), h4, h5, h6, fun j y e => ?_⟩
  obtain ⟨g, h8, h9, h10⟩ := h7 j y e
  have hg := hk g (lt_cell h10) h9
  exact ⟨g, h8, hg.1, (World.cell?_of_block hg.2).trans h10⟩
/-- The cells of a list of rules. -/
def flat (l : List (List Value)) : List Value := l.flatten
/-- A type's rules under way: block ti has their slice in cell 1. -/
structure TiV (w : World) (base ti : Nat) (fs : List Fx) (v : Value) (vss : List (List Value)) : Prop where
  c1 : w.cell? ⟨ti, 1, none⟩ = some v
  nf : w.frozen? ⟨ti, 1, none⟩ = false
  own : w.ownsRow base 85 5 v fs.length (flat vss)
  len : vss.length = fs.length
  rows : ∀ (i : Nat) (vs : List Value) (x : Fx), vss[i]? = some vs → fs[i]? = some x → FxQ w (fun b => b ≠ ti ∧ v.ownBlock ≠ some b) vs x
  far : v.ownBlock ≠ some ti
theorem flat_at : ∀ (vss : List (List Value)) (i k : Nat) (vs : List Value) (u : Value), (∀ ws ∈ vss, ws.length = 5) → vss[i]? = some vs → vs[k]? = some u → (flat vss)[i * 5 + k]? = some u
  | [], _, _, _, _, _, h, _ => by simp at h
  | ws :: vss, 0, k, vs, u, hl, h, hk => by
    simp at h
    subst h
    have hk' : k < ws.length := (List.getElem?_eq_some_iff.1 hk).1
    simp only [flat, List.flatten_cons, Nat.zero_mul, Nat.zero_add]
    rw [List.getElem?_append_left hk']
    exact hk
  | ws :: vss, i + 1, k, vs, u, hl, h, hk => by
    have hw : ws.length = 5 := hl ws (by simp)
    have ih := flat_at vss i k vs u (fun x hx => hl x (by simp [hx])) (by simpa using h) hk
    simp only [flat, List.flatten_cons]
    rw [List.getElem?_append_right (by omega), hw, show (i + 1) * 5 + k - 5 = i * 5 + k by omega]
    exact ih
theorem FxQ.len {w : World} {ok : Nat → Prop} {vs : List Value} {x : Fx} (h : FxQ w ok vs x) : vs.length = 5 := by
  obtain ⟨ib, ic, A, pc, rfl, _⟩ := h
  rfl
theorem TiV.lens {w : World} {base ti : Nat} {fs : List Fx} {v : Value} {vss : List (List Value)} (h : TiV w base ti fs v vss) : ∀ ws ∈ vss, ws.length = 5 := by
  intro ws hw
  obtain ⟨i, hi, rfl⟩ := List.mem_iff_getElem.1 hw
  have h2 : i < fs.length := by rw [← h.len]; exact hi
  exact (h.rows i _ _ (List.getElem?_eq_getElem hi) (List.getElem?_eq_getElem h2)).len
/-- The cells of row i. -/
theorem TiV.at_ {w : World} {base ti : Nat} {fs : List Fx} {v : Value} {vss : List (List Value)} (h : TiV w base ti fs v vss) {i : Nat} {x : Fx} (hi : fs[i]? = some x) :
    ∃ g cap ib ic A pc, v = .slice (some ⟨g, 0, none⟩) fs.length cap ∧ g ≠ ti ∧ (w.cell? ⟨g, i * 5, none⟩ = some (.slice (some ⟨ib, 0, none⟩) x.idx.length ic) ∧ w.cell? ⟨g, i * 5 + 1, none⟩ = some (.string x.fi.name) ∧ w.cell? ⟨g, i * 5 + 2, none⟩ = some (.string x.fi.xmlns) ∧
      w.cell? ⟨g, i * 5 + 3, none⟩ = some (.int .i64 x.fi.flags) ∧ w.cell? ⟨g, i * 5 + 4, none⟩ = some (.slice A x.fi.parents.length pc)) ∧ FxQ w (fun b => b ≠ ti ∧ v.ownBlock ≠ some b) [.slice (some ⟨ib, 0, none⟩) x.idx.length ic, .string x.fi.name, .string x.fi.xmlns, .int .i64 x.fi.flags, .slice A x.fi.parents.length pc] x := by
  have hif : i < fs.length := (List.getElem?_eq_some_iff.1 hi).1
  obtain ⟨vs, hvs⟩ : ∃ vs, vss[i]? = some vs := ⟨_, List.getElem?_eq_getElem (by have := h.len; omega)⟩
  have hq := h.rows i vs x hvs hi
  have hq' := hq
  obtain ⟨ib, ic, A, pc, rfl, _⟩ := hq'
  have hown := h.own
  rcases hown.2 with ⟨_, hn⟩ | ⟨g, cap, cur, hv, hb, hg, _, _, hcs, htk⟩
  · omega
  · have hc : ∀ k u, ([Value.slice (some ⟨ib, 0, none⟩) x.idx.length ic, .string x.fi.name, .string x.fi.xmlns, .int .i64 x.fi.flags, .slice A x.fi.parents.length pc] : List Value)[k]? = some u → w.cell? ⟨g, i * 5 + k, none⟩ = some u := fun k u e => by
      have hf := flat_at vss i k _ u h.lens hvs e
      rw [← htk, List.getElem?_take] at hf
      split at hf
      · simp only [World.cell?, hg]
        simpa using hf
      · cases hf
    refine ⟨g, cap, ib, ic, A, pc, hv, fun e => h.far (by rw [hv, e]; rfl), ⟨hc 0 _ rfl, hc 1 _ rfl, hc 2 _ rfl, hc 3 _ rfl, hc 4 _ rfl⟩, hq⟩
end Go.Proofs.YtnmgocbmofbppaaGreatDoor
