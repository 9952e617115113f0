/- escapeText, of a good text into a bytes.Buffer. -/
import Derived.Test.YthhmnnojgjpibaaGreatDoorA09
import Derived.Test.YthhmnnojgjpibaaGreatDoorA21

set_option linter.unusedVariables false
set_option linter.unusedSimpArgs false

namespace Go.Proofs.YthhmnnojgjpibaaGreatDoor
open Go Go.RowKit Go.Lib

attribute [local go_sem ↓] Go.wp_at_zero Go.wp_at_succ
theorem inv47 (a : Addr) (w : World) : (method 376 47 (.pointer (some a)) "Write").run Tryz.prog w = .ok (151, .pointer (some a)) w := by kernel_rfl
theorem nil47 (a : Addr) (w : World) : (nilAhead 376 47 (.pointer (some a)) "Write").run Tryz.prog w = .ok (some false) w := by kernel_rfl
theorem decode_l (l : List UInt8) (hne : l ≠ []) (m : Nat) (hm : m = l.length) (b off cap : Nat) (w : World) (hT : Lib.Utf8Tabs 1 2 w) (hp : ∀ j x, l[j]? = some x → w.cell? ⟨b, off + j, none⟩ = some (.int .u8 (x.toNat : Int))) :
    Calls Tryz.prog 22 #[.slice (some ⟨b, off, none⟩) m cap] w fun e w' => e = .returned (.tuple #[.int .i32 (decodeL l).1, .int .i64 (decodeL l).2]) ∧ Below w.heap.size w w' := by
  have hs : (⟨l.toArray⟩ : ByteArray).size = m := by rw [hm]; show l.toArray.size = _; simp
  have h := Tryz.utf8_DecodeRune ⟨l.toArray⟩ b off cap w hT fun j hj => by
    have hj' : j < l.length := by rw [hs] at hj; omega
    rw [hp j _ (List.getElem?_eq_getElem hj')]
    congr 1
    show Value.int .u8 _ = Value.int .u8 (((⟨l.toArray⟩ : ByteArray).get! j).toNat : Int)
    congr 3
    show _ = l.toArray[j]!
    simp [hj']
  rw [hs, decodeGo_L hne] at h
  exact h
/-- What the loop of escapeText holds. -/
def EscR (R : Nat → Option Value) (b sb : Nat) (v : List UInt8) (w0 : World) (gk : Nat) (s8 s9 : Value) (wx : World) : Prop :=
  ∃ i last : Nat, last ≤ i ∧ i ≤ v.length ∧ gk = v.length - i ∧ s8 = .int .i64 (last : Int) ∧ s9 = .int .i64 (i : Int) ∧ EsS R b sb v (esc (v.take last)) w0 wx ∧ (∀ d ∈ (v.drop last).take (i - last), plainB d = true) ∧ Good (v.drop i)
theorem EsS.lit {R : Nat → Option Value} {b sb : Nat} {v bs : List UInt8} {w0 w : World} (h : EsS R b sb v bs w0 w) (s : List UInt8) (n : Nat) (hn : n = s.length) (hlim : bs.length + s.length ≤ 1000000) : ∃ c U, (convert 9 39 (.string ⟨s.toArray⟩)).run Tryz.prog w = .ok (.slice (some ⟨w.heap.size, 0, none⟩) n c) U ∧
    Calls Tryz.prog 151 #[.pointer (some ⟨b, 0, none⟩), .slice (some ⟨w.heap.size, 0, none⟩) n c] U fun e w' => e = .returned (.tuple #[.int .i64 n, .nilIface]) ∧ EsS R b sb v (bs ++ s) w0 w' := by
  have hs : (⟨s.toArray⟩ : ByteArray).size = n := by rw [hn]; show s.toArray.size = _; simp
  have hc := Lib.run_convert_string_bytes w 9 39 5 ⟨s.toArray⟩ Tryz.underlying9 Tryz.underlying39 Tryz.underlying5
  rw [hs] at hc
  refine ⟨_, _, hc, (h.below (bytesWorld_below _ _ _)).write s n hn _ _ (fun _ => ⟨_, 0, rfl, ?_, fun j x e => ?_⟩) hlim⟩
  · have := h.lb
    have := h.ext.size
    omega
  · have hj := (List.getElem?_eq_some_iff.1 e).1
    have := bytesWorld_cell w 5 ⟨s.toArray⟩ j (by rw [hs]; omega)
    rw [Nat.zero_add, this]
    have e2 := (List.getElem?_eq_some_iff.1 e).2
    have e3 : (⟨s.toArray⟩ : ByteArray).data.toList.getD j 0 = x := by
      simp [hj, e2]
    rw [e3]
theorem Below.drew_ (w : World) : Below w.heap.size w w.drew := ⟨rfl, rfl, rfl, Nat.le_refl _, fun _ _ => rfl⟩
set_option maxHeartbeats 8000000 in
set_option maxRecDepth 1000000 in
theorem escapeText_ok {R : Nat → Option Value} {b sb B0 cap : Nat} {v : List UInt8} {w : World} (h : EsS R b sb v [] w w) (hT : U8 B0 w) (hB : B0 ≤ b) (hg : Good v) (hv : v.length ≤ 1000) (hcap : v.length ≤ cap) :
    Calls Tryz.prog 17 #[.iface 47 (.pointer (some ⟨b, 0, none⟩)), .slice (some ⟨sb, 0, none⟩) v.length cap, .bool true] w fun e w' => e = .returned .nilIface ∧ EsS R b sb v (esc v) w w' := by
  have hi := inv47
  have hn := nil47
  have hlb := h.lb
  have H := Lib.hid h
  have HT := Lib.hid hT
  have HG := Lib.hid hg
  clear h hT hg
  have hv' : (v.length : Int) ≤ 1000 := by omega
  go_enter Tryz.func17, Tryz.ntmps17
  go_wp2
  go_loopg [8, 9] v.length (EscR R b sb v w)
  case atStart => exact ⟨0, 0, Nat.le_refl _, Nat.zero_le _, rfl, rfl, rfl, by simpa [esc] using H.out, by simp, by simpa using HG.out⟩
  case round =>
    obtain ⟨i, last, hli, hiv, rfl, rfl, rfl, hE, hp, hgd⟩ := hrel
    have HE := Lib.hid hE
    have HP := Lib.hid hp
    clear hE hp
    by_cases hlt : i < v.length
    · have hlt' : (i : Int) < (v.length : Int) := by omega
      obtain ⟨c, t, hct⟩ : ∃ c t, v.drop i = c :: t := ⟨_, _, List.drop_eq_getElem_cons hlt⟩
      rw [hct] at hgd
      obtain ⟨r, k, hd, hk1, hk2, hr, hf, hgd2, hcase⟩ := hgd.head
      obtain ⟨A, hA1, hA2⟩ := cut_l sb v.length cap i (by omega) hcap
      obtain rfl := hA1 hlt
      have hU : Lib.Utf8Tabs 1 2 wr := HT.out wr (HE.out.ext.below (fun k hk => by omega) (by omega))
      have hdc := decode_l (c :: t) (by simp) (v.length - i) (by rw [← hct]; simp) sb i (cap - i) wr hU (fun j x e => HE.out.src (i + j) x (by rw [← hct, List.getElem?_drop] at e; exact e))
      rw [hd] at hdc
      have HDC := Lib.hid hdc
      have hk3 : i + k ≤ v.length := by rw [← hct] at hk2; simp at hk2; omega
      clear hdc hU hd
      have hil : (i : Int) + (k : Int) ≤ 1000 := by omega
      have hi0 : (0 : Int) ≤ (i : Int) + (k : Int) := by omega
      have hcs : (plainB c = false ∧ r = c.toNat ∧ k = 1) ∨ ((r ≠ 34 ∧ r ≠ 39 ∧ r ≠ 38 ∧ r ≠ 60 ∧ r ≠ 62 ∧ r ≠ 9 ∧ r ≠ 10 ∧ r ≠ 13) ∧ ∀ d ∈ (c :: t).take k, plainB d = true) := by
        rcases hcase with ⟨hc, rfl, rfl⟩ | ⟨h128, hc, hpl⟩
        · cases hpc : plainB c with
          | false => exact .inl ⟨rfl, rfl, rfl⟩
          | true =>
            refine .inr ⟨?_, fun d hd => by simp at hd; rw [hd]; exact hpc⟩
            simp only [plainB, Bool.and_eq_true, bne_iff_ne, ne_eq] at hpc
            obtain ⟨⟨⟨⟨⟨⟨⟨h1, h2⟩, h3⟩, h4⟩, h5⟩, h6⟩, h7⟩, h8⟩ := hpc
            refine ⟨?_, ?_, ?_, ?_, ?_, ?_, ?_, ?_⟩ <;> intro e
            · exact h1 (UInt8.toNat_inj.1 e)
            · exact h2 (UInt8.toNat_inj.1 e)
            · exact h3 (UInt8.toNat_inj.1 e)
            · exact h4 (UInt8.toNat_inj.1 e)
            · exact h5 (UInt8.toNat_inj.1 e)
            · exact h6 (UInt8.toNat_inj.1 e)
            · exact h7 (UInt8.toNat_inj.1 e)
            · exact h8 (UInt8.toNat_inj.1 e)
        · exact .inr ⟨⟨by omega, by omega, by omega, by omega, by omega, by omega, by omega, by omega⟩, hpl⟩
      clear hcase
      rcases hcs with ⟨hsp, rfl, rfl⟩ | ⟨⟨n1, n2, n3, n4, n5, n6, n7, n8⟩, hpl⟩
      · have hgi : v.getD i 0 = c := (getD_eq_of_drop hct).1
        have hsq : esc (v.take last) ++ (v.drop last).take (i - last) ++ escB c = esc (v.take (i + 1)) := by rw [← hgi]; exact esc_special hli hlt HP.out
        have hlen1 : (esc (v.take last)).length + v.length ≤ 1000000 := by have := esc_len (v.take last); simp at this; omega
        have hgd3 : Good (v.drop (i + 1)) := by rw [← List.drop_drop, hct]; exact hgd2
        obtain ⟨A2, hB1, hB2⟩ := cut_lh sb v.length cap last i hli (by omega)
        have hB2' : ∀ W : World, (Instr.slice 39 (.slice (some ⟨sb, 0, none⟩) v.length cap) (some (.int .i64 (last : Int))) (some (.int .i64 ((i : Int) + 1 - 1))) none).run Tryz.prog W = .ok (.slice A2 (i - last) (cap - last)) W := fun W => by rw [Int.add_sub_cancel]; exact hB2 W
        have HSQ := Lib.hid hsq
        have HGD3 := Lib.hid hgd3
        have HB1 := Lib.hid hB1
        clear hsq hgd3 hB1 hgd2 hk2 hk3 hr hf hgi
        simp only [plainB, Bool.and_eq_false_iff, bne_eq_false_iff_eq] at hsp
        have hil : (i : Int) + 1 ≤ 1000 := by omega
        have hi0 : (0 : Int) ≤ (i : Int) + 1 := by omega
        have hwi : IntKind.i64.wrap (i : Int) = (i : Int) := by rw [IntKind.wrap_i64]; omega
        have hlen2 : (esc (v.take last) ++ (v.drop last).take (i - last)).length + 5 ≤ 1000000 := by have := esc_len (v.take last); simp at this ⊢; omega
        clear hk1
        rcases hsp with ((((((rfl | rfl) | rfl) | rfl) | rfl) | rfl) | rfl) | rfl
        · have hdc1 : Calls Tryz.prog 22 #[.slice (some ⟨sb, i, none⟩) (v.length - i) (cap - i)] wr fun e w' => e = .returned (.tuple #[.int .i32 34, .int .i64 1]) ∧ Below wr.heap.size wr w' := HDC.out
          have HDC1 := Lib.hid hdc1
          clear hdc1 HDC
          go_wp2_with (first | (go_at_call 22; refine HDC1.out.mono ?_; rintro e w2 ⟨rfl, hb2⟩; have HE2 := Lib.hid (HE.out.below hb2); clear hb2))
          have HE3 := Lib.hid (HE2.out.below (Below.drew_ w2))
          go_region_with (go_at_call 151; refine (HE3.out.stretch last i hli hiv A2 _ HB1.out hlen1).mono ?_; rintro e w4 ⟨rfl, hE4⟩; obtain ⟨c5, U5, hcv5, hw5⟩ := hE4.lit [38, 35, 51, 52, 59] 5 rfl (Nat.le_trans (Nat.add_le_add_left (by decide) _) hlen2); have HW5 := Lib.hid hw5; clear hE4 hw5)
          go_wp2_with (go_at_call 151; refine HW5.out.mono ?_; rintro e w6 ⟨rfl, hE6⟩; have HE6 := Lib.hid hE6; clear hE6)
          go_roundg (v.length - (i + 1))
          case measure => omega
          case rel =>
            refine ⟨i + 1, i + 1, Nat.le_refl _, hlt, rfl, rfl, by simp, ?_, by simp, HGD3.out⟩
            rw [← HSQ.out]; exact HE6.out
        · have hdc1 : Calls Tryz.prog 22 #[.slice (some ⟨sb, i, none⟩) (v.length - i) (cap - i)] wr fun e w' => e = .returned (.tuple #[.int .i32 39, .int .i64 1]) ∧ Below wr.heap.size wr w' := HDC.out
          have HDC1 := Lib.hid hdc1
          clear hdc1 HDC
          go_wp2_with (first | (go_at_call 22; refine HDC1.out.mono ?_; rintro e w2 ⟨rfl, hb2⟩; have HE2 := Lib.hid (HE.out.below hb2); clear hb2))
          have HE3 := Lib.hid (HE2.out.below (Below.drew_ w2))
          go_region_with (go_at_call 151; refine (HE3.out.stretch last i hli hiv A2 _ HB1.out hlen1).mono ?_; rintro e w4 ⟨rfl, hE4⟩; obtain ⟨c5, U5, hcv5, hw5⟩ := hE4.lit [38, 35, 51, 57, 59] 5 rfl (Nat.le_trans (Nat.add_le_add_left (by decide) _) hlen2); have HW5 := Lib.hid hw5; clear hE4 hw5)
          go_wp2_with (go_at_call 151; refine HW5.out.mono ?_; rintro e w6 ⟨rfl, hE6⟩; have HE6 := Lib.hid hE6; clear hE6)
          go_roundg (v.length - (i + 1))
          case measure => omega
          case rel =>
            refine ⟨i + 1, i + 1, Nat.le_refl _, hlt, rfl, rfl, by simp, ?_, by simp, HGD3.out⟩
            rw [← HSQ.out]; exact HE6.out
        · have hdc1 : Calls Tryz.prog 22 #[.slice (some ⟨sb, i, none⟩) (v.length - i) (cap - i)] wr fun e w' => e = .returned (.tuple #[.int .i32 38, .int .i64 1]) ∧ Below wr.heap.size wr w' := HDC.out
          have HDC1 := Lib.hid hdc1
          clear hdc1 HDC
          go_wp2_with (first | (go_at_call 22; refine HDC1.out.mono ?_; rintro e w2 ⟨rfl, hb2⟩; have HE2 := Lib.hid (HE.out.below hb2); clear hb2))
          have HE3 := Lib.hid (HE2.out.below (Below.drew_ w2))
          go_region_with (go_at_call 151; refine (HE3.out.stretch last i hli hiv A2 _ HB1.out hlen1).mono ?_; rintro e w4 ⟨rfl, hE4⟩; obtain ⟨c5, U5, hcv5, hw5⟩ := hE4.lit [38, 97, 109, 112, 59] 5 rfl (Nat.le_trans (Nat.add_le_add_left (by decide) _) hlen2); have HW5 := Lib.hid hw5; clear hE4 hw5)
          go_wp2_with (go_at_call 151; refine HW5.out.mono ?_; rintro e w6 ⟨rfl, hE6⟩; have HE6 := Lib.hid hE6; clear hE6)
          go_roundg (v.length - (i + 1))
          case measure => omega
          case rel =>
            refine ⟨i + 1, i + 1, Nat.le_refl _, hlt, rfl, rfl, by simp, ?_, by simp, HGD3.out⟩
            rw [← HSQ.out]; exact HE6.out
        · have hdc1 : Calls Tryz.prog 22 #[.slice (some ⟨sb, i, none⟩) (v.length - i) (cap - i)] wr fun e w' => e = .returned (.tuple #[.int .i32 60, .int .i64 1]) ∧ Below wr.heap.size wr w' := HDC.out
          have HDC1 := Lib.hid hdc1
          clear hdc1 HDC
          go_wp2_with (first | (go_at_call 22; refine HDC1.out.mono ?_; rintro e w2 ⟨rfl, hb2⟩; have HE2 := Lib.hid (HE.out.below hb2); clear hb2))
          have HE3 := Lib.hid (HE2.out.below (Below.drew_ w2))
          go_region_with (go_at_call 151; refine (HE3.out.stretch last i hli hiv A2 _ HB1.out hlen1).mono ?_; rintro e w4 ⟨rfl, hE4⟩; obtain ⟨c5, U5, hcv5, hw5⟩ := hE4.lit [38, 108, 116, 59] 4 rfl (Nat.le_trans (Nat.add_le_add_left (by decide) _) hlen2); have HW5 := Lib.hid hw5; clear hE4 hw5)
          go_wp2_with (go_at_call 151; refine HW5.out.mono ?_; rintro e w6 ⟨rfl, hE6⟩; have HE6 := Lib.hid hE6; clear hE6)
          go_roundg (v.length - (i + 1))
          case measure => omega
          case rel =>
            refine ⟨i + 1, i + 1, Nat.le_refl _, hlt, rfl, rfl, by simp, ?_, by simp, HGD3.out⟩
            rw [← HSQ.out]; exact HE6.out
        · have hdc1 : Calls Tryz.prog 22 #[.slice (some ⟨sb, i, none⟩) (v.length - i) (cap - i)] wr fun e w' => e = .returned (.tuple #[.int .i32 62, .int .i64 1]) ∧ Below wr.heap.size wr w' := HDC.out
          have HDC1 := Lib.hid hdc1
          clear hdc1 HDC
          go_wp2_with (first | (go_at_call 22; refine HDC1.out.mono ?_; rintro e w2 ⟨rfl, hb2⟩; have HE2 := Lib.hid (HE.out.below hb2); clear hb2))
          have HE3 := Lib.hid (HE2.out.below (Below.drew_ w2))
          go_region_with (go_at_call 151; refine (HE3.out.stretch last i hli hiv A2 _ HB1.out hlen1).mono ?_; rintro e w4 ⟨rfl, hE4⟩; obtain ⟨c5, U5, hcv5, hw5⟩ := hE4.lit [38, 103, 116, 59] 4 rfl (Nat.le_trans (Nat.add_le_add_left (by decide) _) hlen2); have HW5 := Lib.hid hw5; clear hE4 hw5)
          go_wp2_with (go_at_call 151; refine HW5.out.mono ?_; rintro e w6 ⟨rfl, hE6⟩; have HE6 := Lib.hid hE6; clear hE6)
          go_roundg (v.length - (i + 1))
          case measure => omega
          case rel =>
            refine ⟨i + 1, i + 1, Nat.le_refl _, hlt, rfl, rfl, by simp, ?_, by simp, HGD3.out⟩
            rw [← HSQ.out]; exact HE6.out
        · have hdc1 : Calls Tryz.prog 22 #[.slice (some ⟨sb, i, none⟩) (v.length - i) (cap - i)] wr fun e w' => e = .returned (.tuple #[.int .i32 9, .int .i64 1]) ∧ Below wr.heap.size wr w' := HDC.out
          have HDC1 := Lib.hid hdc1
          clear hdc1 HDC
          go_wp2_with (first | (go_at_call 22; refine HDC1.out.mono ?_; rintro e w2 ⟨rfl, hb2⟩; have HE2 := Lib.hid (HE.out.below hb2); clear hb2))
          have HE3 := Lib.hid (HE2.out.below (Below.drew_ w2))
          go_region_with (go_at_call 151; refine (HE3.out.stretch last i hli hiv A2 _ HB1.out hlen1).mono ?_; rintro e w4 ⟨rfl, hE4⟩; obtain ⟨c5, U5, hcv5, hw5⟩ := hE4.lit [38, 35, 120, 57, 59] 5 rfl (Nat.le_trans (Nat.add_le_add_left (by decide) _) hlen2); have HW5 := Lib.hid hw5; clear hE4 hw5)
          go_wp2_with (go_at_call 151; refine HW5.out.mono ?_; rintro e w6 ⟨rfl, hE6⟩; have HE6 := Lib.hid hE6; clear hE6)
          go_roundg (v.length - (i + 1))
          case measure => omega
          case rel =>
            refine ⟨i + 1, i + 1, Nat.le_refl _, hlt, rfl, rfl, by simp, ?_, by simp, HGD3.out⟩
            rw [← HSQ.out]; exact HE6.out
        · have hdc1 : Calls Tryz.prog 22 #[.slice (some ⟨sb, i, none⟩) (v.length - i) (cap - i)] wr fun e w' => e = .returned (.tuple #[.int .i32 10, .int .i64 1]) ∧ Below wr.heap.size wr w' := HDC.out
          have HDC1 := Lib.hid hdc1
          clear hdc1 HDC
          go_wp2_with (first | (go_at_call 22; refine HDC1.out.mono ?_; rintro e w2 ⟨rfl, hb2⟩; have HE2 := Lib.hid (HE.out.below hb2); clear hb2))
          have HE3 := Lib.hid (HE2.out.below (Below.drew_ w2))
          go_region_with (go_at_call 151; refine (HE3.out.stretch last i hli hiv A2 _ HB1.out hlen1).mono ?_; rintro e w4 ⟨rfl, hE4⟩; obtain ⟨c5, U5, hcv5, hw5⟩ := hE4.lit [38, 35, 120, 65, 59] 5 rfl (Nat.le_trans (Nat.add_le_add_left (by decide) _) hlen2); have HW5 := Lib.hid hw5; clear hE4 hw5)
          go_wp2_with (go_at_call 151; refine HW5.out.mono ?_; rintro e w6 ⟨rfl, hE6⟩; have HE6 := Lib.hid hE6; clear hE6)
          go_roundg (v.length - (i + 1))
          case measure => omega
          case rel =>
            refine ⟨i + 1, i + 1, Nat.le_refl _, hlt, rfl, rfl, by simp, ?_, by simp, HGD3.out⟩
            rw [← HSQ.out]; exact HE6.out
        · have hdc1 : Calls Tryz.prog 22 #[.slice (some ⟨sb, i, none⟩) (v.length - i) (cap - i)] wr fun e w' => e = .returned (.tuple #[.int .i32 13, .int .i64 1]) ∧ Below wr.heap.size wr w' := HDC.out
          have HDC1 := Lib.hid hdc1
          clear hdc1 HDC
          go_wp2_with (first | (go_at_call 22; refine HDC1.out.mono ?_; rintro e w2 ⟨rfl, hb2⟩; have HE2 := Lib.hid (HE.out.below hb2); clear hb2))
          have HE3 := Lib.hid (HE2.out.below (Below.drew_ w2))
          go_region_with (go_at_call 151; refine (HE3.out.stretch last i hli hiv A2 _ HB1.out hlen1).mono ?_; rintro e w4 ⟨rfl, hE4⟩; obtain ⟨c5, U5, hcv5, hw5⟩ := hE4.lit [38, 35, 120, 68, 59] 5 rfl (Nat.le_trans (Nat.add_le_add_left (by decide) _) hlen2); have HW5 := Lib.hid hw5; clear hE4 hw5)
          go_wp2_with (go_at_call 151; refine HW5.out.mono ?_; rintro e w6 ⟨rfl, hE6⟩; have HE6 := Lib.hid hE6; clear hE6)
          go_roundg (v.length - (i + 1))
          case measure => omega
          case rel =>
            refine ⟨i + 1, i + 1, Nat.le_refl _, hlt, rfl, rfl, by simp, ?_, by simp, HGD3.out⟩
            rw [← HSQ.out]; exact HE6.out
      · have r1 : ((r : Int) == 34) = false := by simp; omega
        have r2 : ((r : Int) == 39) = false := by simp; omega
        have r3 : ((r : Int) == 38) = false := by simp; omega
        have r4 : ((r : Int) == 60) = false := by simp; omega
        have r5 : ((r : Int) == 62) = false := by simp; omega
        have r6 : ((r : Int) == 9) = false := by simp; omega
        have r7 : ((r : Int) == 10) = false := by simp; omega
        have r8 : ((r : Int) == 13) = false := by simp; omega
        have r9 : ((r : Int) == 65533) = false := by simp; omega
        go_wp2_with (first | (go_at_call 23; refine (range_yes r hr _).mono ?_; rintro e w3 ⟨rfl, rfl⟩) | (go_at_call 22; refine HDC.out.mono ?_; rintro e w2 ⟨rfl, hb2⟩; have HE2 := Lib.hid (HE.out.below hb2); clear hb2))
        go_roundg (v.length - (i + k))
        case measure => omega
        case rel =>
          refine ⟨i + k, last, by omega, hk3, rfl, rfl, by simp, HE2.out, ?_, ?_⟩
          · exact between_add hli HP.out (by rw [hct]; exact hpl)
          · rw [← List.drop_drop, hct]; exact hgd2
    · obtain rfl : i = v.length := by omega
      obtain ⟨A, hA1, hA2⟩ := cut_l sb v.length cap last hli hcap
      have HA1 := Lib.hid hA1
      clear hA1
      have hlen1 : (esc (v.take last)).length + v.length ≤ 1000000 := by have := esc_len (v.take last); simp at this; omega
      have hll : (last : Int) ≤ (v.length : Int) := by omega
      have HE2 := Lib.hid (HE.out.below (Below.drew_ wr))
      go_wp2
      go_region_with (go_at_call 151; refine (HE2.out.stretch last v.length hli (Nat.le_refl _) A _ HA1.out hlen1).mono ?_; rintro e w4 ⟨rfl, hE4⟩; have HE4 := Lib.hid hE4; clear hE4)
      go_wp2
      go_ret
      refine ⟨rfl, ?_⟩
      have e := esc_between hli HP.out
      rw [List.take_length] at e
      rw [e]
      exact HE4.out

end Go.Proofs.YthhmnnojgjpibaaGreatDoor
