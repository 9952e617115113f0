/- isName of small letters. Names: isNameByte, readName. Names: name, nsname. Names: nsname of one letter. strconv.ParseUint of the numbers that are written; entity; the range of characters. -/
import Derived.Test.YthhmnnojgjpibaaGreatDoorA06
import Derived.Test.YthhmnnojgjpibaaGreatDoorA07
import Derived.Test.YthhmnnojgjpibaaGreatDoorA02
import Derived.Test.YthhmnnojgjpibaaGreatDoorA01
import Derived.Lib.ConvBytes
import Derived.Lib.AtoiErrMem

set_option linter.unusedVariables false
set_option linter.unusedSimpArgs false

namespace Go.Proofs.YthhmnnojgjpibaaGreatDoor
open Go Go.RowKit Go.Lib

attribute [local go_sem ↓] Go.wp_at_zero Go.wp_at_succ
theorem Rds.below {l : List UInt8} {g c : Nat} {w w' : World} (h : Rds l g c w) (hb : Below w.heap.size w w') : Rds l g c w' :=
  ⟨fun j x hj => (World.cell?_of_block (hb.block g (lt_of_cell (h.cells j x hj)))).trans (h.cells j x hj), h.le, h.lim, h.c64⟩
/-- unicode.Is(first(), c), c a small letter. -/
theorem is_first (x : UInt8) (h1 : 97 ≤ x.toNat) (h2 : x.toNat ≤ 122) (w : World) :
    Calls Tryz.prog 77 #[.pointer (some ⟨w.heap.size + 1, 0, none⟩), .int .i32 (x.toNat : Int)] (firstW w) fun e w' => e = .returned (.bool true) ∧ Below w.heap.size w w' := by
  refine (Tryz.unicode_Is_any (w.heap.size + 1) 0 firstTab x.toNat (firstW w) (by omega) (by omega) (first_tab w) firstTab_ok).mono ?_
  rintro e w' ⟨rfl, hb⟩
  exact ⟨by rw [first_letter h1 h2], (first_below w).trans (hb.mono (first_below w).size)⟩
theorem slice_next (g k n c : Nat) (hk : 1 ≤ n) (hc : 1 < c) (W : World) : (Instr.slice 39 (.slice (some ⟨g, k, none⟩) n c) (some (.int .i64 1)) none none).run Tryz.prog W = .ok (.slice (some ⟨g, k + 1, none⟩) (n - 1) (c - 1)) W := by
  have e1 : Tryz.prog.underlying 39 = some (.slice (Tryz.prog.elem 39)) := by kernel_rfl
  have e2 : ∀ w, (sizeOf (Tryz.prog.elem 39)).run Tryz.prog w = .ok 1 w := fun w => by kernel_rfl
  rw [run_slice_l (P := Tryz.prog) W 39 _ n c e1 .i64 1 (by omega) (by omega), e2]
  simp only [Result.andThen, sliced, show (1 : Int).toNat = 1 from rfl]
  rw [if_neg (by omega)]
  have e : (⟨g, k, none⟩ : Addr).add (1 * 1) = ⟨g, k + 1, none⟩ := by unfold Addr.add; split <;> simp_all
  simp only [Option.map_some, e]
def sliceLen : Value → Nat
  | .slice _ n _ => n
  | _ => 0
set_option maxHeartbeats 4000000 in
set_option maxRecDepth 100000 in
theorem isName_at (l : List UInt8) (hne : l ≠ []) (hl : ∀ x ∈ l, 97 ≤ x.toNat ∧ x.toNat ≤ 122) (g o c : Nat) (hlc : l.length ≤ c) (w : World) (h : ∀ j x, l[j]? = some x → w.cell? ⟨g, o + j, none⟩ = some (.int .u8 (x.toNat : Int))) :
    Calls Tryz.prog 59 #[.slice (some ⟨g, o, none⟩) l.length c] w fun e w' => e = .returned (.bool true) ∧ Below w.heap.size w w' := by
  have hpos : 0 < l.length := List.length_pos_iff.2 hne
  have h0i : (0 : Int) < (l.length : Int) := by omega
  have hz : ((l.length : Int) == 0) = false := by simp; omega
  have hx : ∀ k, k < l.length → ∃ x : UInt8, l[k]? = some x ∧ 97 ≤ x.toNat ∧ x.toNat ≤ 122 := fun k hk => ⟨l[k], List.getElem?_eq_getElem hk, (hl _ (List.getElem_mem hk)).1, (hl _ (List.getElem_mem hk)).2⟩
  have HX := Lib.hid hx
  have H := Lib.hid h
  clear hx hl h
  obtain ⟨x, hxl, hx1, hx2⟩ := HX.out 0 hpos
  have hne1 : ((x.toNat : Int) == 65533) = false := by simp; omega
  have HXL := Lib.hid hxl
  clear hxl
  go_enter Tryz.func59, Tryz.ntmps59
  go_wp2_with (first | (go_at_call 22; refine (Tryz.utf8_DecodeRune_ascii l.length g o c x.toNat w (by omega) (H.out 0 x HXL.out) (by omega)).mono ?_; rintro e w2 ⟨rfl, hw2⟩; subst hw2) | (go_at_call 78; refine (first_any _).mono ?_; rintro e w2 ⟨rfl, hw2⟩; subst hw2) | (go_at_call 77; refine (is_first x hx1 hx2 _).mono ?_; rintro e w3 ⟨rfl, hb3⟩; have HB3 := Lib.hid hb3; clear hb3))
  obtain ⟨W, hW⟩ : ∃ W, W = w2 := ⟨_, rfl⟩
  rw [← hW] at HB3 H ⊢
  have HW := Lib.hid hW
  clear hW HXL
  go_loopw [0, 4] (fun s0 s4 wr => ∃ k, k < l.length ∧ s0 = .slice (some ⟨g, o + k, none⟩) (l.length - k) (c - k) ∧ s4 = .int .i64 1 ∧ Below W.heap.size W wr) (fun s0 _ _ => sliceLen s0)
  case atStart => exact ⟨0, hpos, rfl, rfl, HB3.out⟩
  case round =>
    obtain ⟨k, hk, rfl, rfl, hb⟩ := hrel
    have HB := Lib.hid hb
    clear hb
    by_cases hlt : k + 1 < l.length
    · obtain ⟨y, hyl, hy1, hy2⟩ := HX.out (k + 1) hlt
      have hd : decide ((1 : Int) < ((l.length - k : Nat) : Int)) = true := by simp; omega
      have hd1 : (1 : Int) < ((l.length - k : Nat) : Int) := by omega
      have hsl := slice_next g (o + k) (l.length - k) (c - k) (by omega) (by omega)
      have hne2 : ((y.toNat : Int) == 65533) = false := by simp; omega
      have HYL := Lib.hid hyl
      clear hyl
      go_wp2_with (first | (go_at_call 22; refine (Tryz.utf8_DecodeRune_ascii (l.length - k - 1) g (o + k + 1) _ y.toNat _ (by omega) ((World.cell?_of_block (HB.out.block g (lt_of_cell (H.out (k + 1) y HYL.out)))).trans (H.out (k + 1) y HYL.out)) (by omega)).mono ?_; rintro e w5 ⟨rfl, hw5⟩; subst hw5) | (go_at_call 78; refine (first_any _).mono ?_; rintro e w5 ⟨rfl, hw5⟩; subst hw5) | (go_at_call 77; refine (is_first y hy1 hy2 _).mono ?_; rintro e w6 ⟨rfl, hb6⟩; have HB6 := Lib.hid hb6; clear hb6))
      go_roundw
      case rel => exact ⟨k + 1, hlt, by rw [Nat.sub_sub, Nat.sub_sub, Nat.add_assoc], rfl, HB.out.trans (HB6.out.mono HB.out.size)⟩
      case measure => simp [sliceLen]; omega
    · have hd : decide ((1 : Int) < ((l.length - k : Nat) : Int)) = false := by simp; omega
      have hd1 : ¬ (1 : Int) < ((l.length - k : Nat) : Int) := by omega
      go_wp2
      go_ret
      exact ⟨rfl, by rw [← HW.out]; exact HB.out⟩
theorem isName_ok (l : List UInt8) (hne : l ≠ []) (hl : ∀ x ∈ l, 97 ≤ x.toNat ∧ x.toNat ≤ 122) (g c : Nat) (w : World) (h : Rds l g c w) :
    Calls Tryz.prog 59 #[.slice (some ⟨g, 0, none⟩) l.length c] w fun e w' => e = .returned (.bool true) ∧ Below w.heap.size w w' :=
  isName_at l hne hl g 0 c h.le w fun j x hj => by rw [Nat.zero_add]; exact h.cells j x hj

end Go.Proofs.YthhmnnojgjpibaaGreatDoor
namespace Go.Proofs.YthhmnnojgjpibaaGreatDoor
open Go Go.RowKit Go.Lib

attribute [local go_sem ↓] Go.wp_at_zero Go.wp_at_succ
/-- A small letter. -/
def Let (x : UInt8) : Prop := 97 ≤ x.toNat ∧ x.toNat ≤ 122
/-- A byte that ends a name. -/
def Fin_ (x : UInt8) : Prop := x = 32 ∨ x = 61 ∨ x = 62 ∨ x = 59
set_option maxHeartbeats 2000000 in
theorem nb_yes (x : UInt8) (h : Let x) (w : World) : Calls Tryz.prog 76 #[.int .u8 (x.toNat : Int)] w fun e w' => e = .returned (.bool true) ∧ w = w' := by
  obtain ⟨h1, h2⟩ := h
  have h1' : (97 : Int) ≤ (x.toNat : Int) := by omega
  have h2' : (x.toNat : Int) ≤ 122 := by omega
  have h3 : (65 : Int) ≤ (x.toNat : Int) := by omega
  have h4 : ¬ (x.toNat : Int) ≤ 90 := by omega
  go_enter Tryz.func76, Tryz.ntmps76
  go_wp2
  go_ret
  exact ⟨rfl, rfl⟩
set_option maxHeartbeats 2000000 in
theorem nb_no (x : UInt8) (h : Fin_ x) (w : World) : Calls Tryz.prog 76 #[.int .u8 (x.toNat : Int)] w fun e w' => e = .returned (.bool false) ∧ w = w' := by
  rcases h with rfl | rfl | rfl | rfl
  all_goals
    go_enter Tryz.func76, Tryz.ntmps76
    go_wp2
    go_ret
    exact ⟨rfl, rfl⟩
set_option maxHeartbeats 4000000 in
set_option maxRecDepth 100000 in
theorem readName_ok {I : Ids} {Fp : Nat → Prop} {B : Nat → Option Value} {bs r : List UInt8} {x t : UInt8} {l : List UInt8} {fr : Bool} {w : World} (hI : IdOk I) (hB : BOk I B) (h : DS I Fp B bs (x :: (l ++ t :: r)) fr w) (hx : Let x) (hl : ∀ y ∈ l, Let y) (ht : Fin_ t) (hlim : bs.length + l.length ≤ 100000) :
    Calls Tryz.prog 58 #[.pointer (some ⟨I.dd, 0, none⟩)] w fun e w' => e = .returned (.bool true) ∧ ∃ Fp', DS I Fp' B (bs ++ x :: l) (t :: r) false w' ∧ Stp Fp Fp' w w' := by
  have hx8 : (x.toNat : Int) < 128 := by have := hx.2; omega
  have ht8 : (t.toNat : Int) < 128 := by rcases ht with rfl | rfl | rfl | rfl <;> decide
  have H := Lib.hid h
  have HB := Lib.hid hB
  have HL := Lib.hid hl
  clear h hB hl
  go_enter Tryz.func58, Tryz.ntmps58
  go_wp2_with (first | (go_at_call 39; refine (mustgetc_ds hI HB.out H.out).mono ?_; rintro e w1 ⟨rfl, h1, hE1⟩; have H1 := Lib.hid h1; have HE1 := Lib.hid hE1; clear h1 hE1) | (go_at_call 76; refine (nb_yes x hx _).mono ?_; rintro e w9 ⟨rfl, rfl⟩) | (go_at_call 44; refine (wb_ds H1.out x (by omega)).mono ?_; rintro e w2 ⟨rfl, Fp2, h2, hS2⟩; have H2 := Lib.hid h2; have HS2 := Lib.hid ((Stp.of HE1.out).trans hS2); clear h2 hS2))
  clear H H1 HE1
  go_loopg [2, 3] l.length (fun gk s2 s3 wx => ∃ (j : Nat) (Fq : Nat → Prop), j ≤ l.length ∧ gk = l.length - j ∧ DS I Fq B (bs ++ x :: l.take j) (l.drop j ++ t :: r) true wx ∧ Stp Fp Fq w wx)
  case atStart => exact ⟨0, Fp2, Nat.zero_le _, rfl, H2.out, HS2.out⟩
  case round =>
    obtain ⟨j, Fq, hj, rfl, hd, hs⟩ := hrel
    have HS := Lib.hid hs
    by_cases hlt : j < l.length
    · obtain ⟨y, hy⟩ : ∃ y, y = l[j] := ⟨_, rfl⟩
      have hyl : Let y := by rw [hy]; exact HL.out _ (List.getElem_mem hlt)
      have hd' : DS I Fq B (bs ++ x :: l.take j) (y :: (l.drop (j + 1) ++ t :: r)) true wr := by
        rw [List.drop_eq_getElem_cons hlt, ← hy] at hd
        exact hd
      have hap : (bs ++ x :: l.take j) ++ [y] = bs ++ x :: l.take (j + 1) := by
        rw [List.take_succ_eq_append_getElem hlt, ← hy]; simp
      have hlen : (bs ++ x :: l.take j).length + 1 ≤ 1000000 := by simp; omega
      have hy8 : (y.toNat : Int) < 128 := by have := hyl.2; omega
      have HD := Lib.hid hd'
      have HAP := Lib.hid hap
      clear hd hd' hap hs hy
      go_wp2_with (first | (go_at_call 39; refine (mustgetc_ds hI HB.out HD.out).mono ?_; rintro e w1 ⟨rfl, h1, hE1⟩; have H1 := Lib.hid h1; have HE1 := Lib.hid hE1; clear h1 hE1) | (go_at_call 76; refine (nb_yes y hyl _).mono ?_; rintro e w9 ⟨rfl, rfl⟩) | (go_at_call 44; refine (wb_ds H1.out y hlen).mono ?_; rintro e w2 ⟨rfl, Fp3, h2, hS2⟩; have H3 := Lib.hid h2; have HS3 := Lib.hid ((Stp.of HE1.out).trans hS2); clear h2 hS2))
      go_roundg (l.length - (j + 1))
      case measure => omega
      case rel => exact ⟨j + 1, Fp3, hlt, rfl, by rw [← HAP.out]; exact H3.out, HS.out.trans HS3.out⟩
    · obtain rfl : j = l.length := by omega
      have hd' : DS I Fq B (bs ++ x :: l) (t :: r) true wr := by
        rw [List.take_length, List.drop_length, List.nil_append] at hd
        exact hd
      have HD := Lib.hid hd'
      clear hd hd' hs
      go_wp2_with (first | (go_at_call 39; refine (mustgetc_ds hI HB.out HD.out).mono ?_; rintro e w1 ⟨rfl, h1, hE1⟩; have H1 := Lib.hid h1; have HE1 := Lib.hid hE1; clear h1 hE1) | (go_at_call 76; refine (nb_no t ht _).mono ?_; rintro e w9 ⟨rfl, rfl⟩) | (go_at_call 37; refine (ungetc_ds t H1.out).mono ?_; rintro e w2 ⟨rfl, h2, hS2⟩; have H3 := Lib.hid h2; have HS3 := Lib.hid (HE1.out.trans hS2); clear h2 hS2))
      go_ret
      exact ⟨rfl, Fq, H3.out, HS.out.trans (Stp.of HS3.out)⟩

end Go.Proofs.YthhmnnojgjpibaaGreatDoor
namespace Go.Proofs.YthhmnnojgjpibaaGreatDoor
open Go Go.RowKit Go.Lib

attribute [local go_sem ↓] Go.wp_at_zero Go.wp_at_succ
theorem DS.below {I : Ids} {Fp : Nat → Prop} {B : Nat → Option Value} {bs rest : List UInt8} {fr : Bool} {w w' : World} (h : DS I Fp B bs rest fr w) (hb : Below w.heap.size w w') : DS I Fp B bs rest fr w' :=
  h.keep hb.size fun k hk => hb.block k (h.lt k hk)
theorem Stp.below {Fp Fp' : Nat → Prop} {w w' w'' : World} (h : Stp Fp Fp' w w') (hb : Below w'.heap.size w' w'') : Stp Fp Fp' w w'' :=
  ⟨h.1.trans ((Ext.of_below hb)), h.2⟩
theorem Rds.conv {l : List UInt8} {g c : Nat} {w : World} (h : Rds l g c w) : (convert 39 9 (.slice (some ⟨g, 0, none⟩) l.length c)).run Tryz.prog w = .ok (.string ⟨l.toArray⟩) w := by
  refine run_convert_bytes_back (P := Tryz.prog) w 39 9 5 ⟨g, 0, none⟩ c l Tryz.underlying39 Tryz.underlying5 Tryz.underlying9 fun j hj => ?_
  have e : (⟨g, 0, none⟩ : Addr).add j = ⟨g, j, none⟩ := by unfold Addr.add; split <;> simp_all
  rw [e]
  exact h.cells j _ (List.getElem?_eq_getElem hj)
set_option maxHeartbeats 4000000 in
set_option maxRecDepth 100000 in
theorem name_ok {I : Ids} {Fp : Nat → Prop} {B : Nat → Option Value} {bs r : List UInt8} {x t : UInt8} {l : List UInt8} {fr : Bool} {w : World} (hI : IdOk I) (hB : BOk I B) (h : DS I Fp B bs (x :: (l ++ t :: r)) fr w) (hx : Let x) (hl : ∀ y ∈ l, Let y) (ht : Fin_ t) (hlim : l.length ≤ 31) :
    Calls Tryz.prog 42 #[.pointer (some ⟨I.dd, 0, none⟩)] w fun e w' => e = .returned (.tuple #[.string ⟨(x :: l).toArray⟩, .bool true]) ∧ ∃ Fp', DS I Fp' B (x :: l) (t :: r) false w' ∧ Stp Fp Fp' w w' := by
  obtain ⟨L, hLe⟩ : ∃ L, L = x :: l := ⟨_, rfl⟩
  have hLn : L ≠ [] := by rw [hLe]; simp
  have hLl : L.length ≤ 32 := by rw [hLe]; simpa using hlim
  have hLa : ∀ y ∈ L, 97 ≤ y.toNat ∧ y.toNat ≤ 122 := by
    rw [hLe]
    intro y hy
    rcases List.mem_cons.1 hy with rfl | hy
    · exact hx
    · exact hl y hy
  have HLA := Lib.hid hLa
  rw [← hLe]
  have hrn : ∀ (Fp1 : Nat → Prop) (w1 : World), DS I Fp1 B [] (x :: (l ++ t :: r)) fr w1 → Calls Tryz.prog 58 #[.pointer (some ⟨I.dd, 0, none⟩)] w1 fun e w' => e = .returned (.bool true) ∧ ∃ Fp', DS I Fp' B L (t :: r) false w' ∧ Stp Fp1 Fp' w1 w' := by
    intro Fp1 w1 h1
    have := readName_ok hI hB h1 hx hl ht (by simp; omega)
    rw [List.nil_append, ← hLe] at this
    exact this
  have H := Lib.hid h
  have HRN := Lib.hid hrn
  clear h hB hl hLa hrn hLe
  go_enter Tryz.func42, Tryz.ntmps42
  go_wp2_with (first | (go_at_call 43; refine (reset_ds H.out).mono ?_; rintro e w1 ⟨rfl, Fp1, h1, hS1⟩; have H1 := Lib.hid h1; have HS1 := Lib.hid hS1; clear h1 hS1) | (go_at_call 58; refine (HRN.out _ _ H1.out).mono ?_; rintro e w2 ⟨rfl, Fp2, h2, hS2⟩; have H2 := Lib.hid h2; have HS2 := Lib.hid (HS1.out.trans hS2); clear h2 hS2) | (go_at_call 45; refine (bytes_ds H2.out hLn).mono ?_; rintro e w3 ⟨g, c, rfl, hR, _, n, hw3⟩; have HR := Lib.hid hR; have H3 : Hid (DS I Fp2 B L (t :: r) false w3) := Lib.hid (by rw [hw3]; exact H2.out.drewN n); have HS3 : Hid (Stp Fp Fp2 w w3) := Lib.hid (by rw [hw3]; exact HS2.out.drewN n); clear hw3 hR) | (go_at_call 59; refine (isName_ok L hLn HLA.out g c _ HR.out).mono ?_; rintro e w4 ⟨rfl, hb⟩; have hcv := (HR.out.below hb).conv; have H4 := Lib.hid (H3.out.below hb); have HS4 := Lib.hid (HS3.out.below hb); clear hb))
  go_ret2
  exact ⟨rfl, Fp2, H4.out, HS4.out⟩

end Go.Proofs.YthhmnnojgjpibaaGreatDoor
namespace Go.Proofs.YthhmnnojgjpibaaGreatDoor
open Go Go.RowKit Go.Lib

attribute [local go_sem ↓] Go.wp_at_zero Go.wp_at_succ
/-- The letters of the documents' names. -/
def Abc (x : UInt8) : Prop := x = 97 ∨ x = 98 ∨ x = 99
theorem Abc.let_ {x : UInt8} (h : Abc x) : Let x := by
  rcases h with rfl | rfl | rfl <;> exact ⟨by decide, by decide⟩
theorem colon_no (x : UInt8) (h : Abc x) : (((⟨#[x]⟩ : ByteArray).extract 0 1).toList == [58]) = false := by
  rcases h with rfl | rfl | rfl <;> kernel_rfl
set_option maxHeartbeats 2000000 in
set_option maxRecDepth 100000 in
theorem zzCount_one (x : UInt8) (h : Abc x) (w : World) : Calls Tryz.prog 63 #[.string ⟨#[x]⟩, .string ⟨#[58]⟩] w fun e w' => e = .returned (.int .i64 0) ∧ w = w' := by
  have hne := colon_no x h
  rcases h with rfl | rfl | rfl
  all_goals
    go_enter Tryz.func63, Tryz.ntmps63
    go_wp2
    refine wp_loop_rounds 2 ?_; rw [rounds_succ]
    go_wp2
    rw [rounds_succ]
    go_wp2
    go_ret
    exact ⟨rfl, rfl⟩
set_option maxHeartbeats 2000000 in
set_option maxRecDepth 100000 in
theorem zzIndex_one (x : UInt8) (h : Abc x) (w : World) : Calls Tryz.prog 67 #[.string ⟨#[x]⟩, .string ⟨#[58]⟩] w fun e w' => e = .returned (.int .i64 (-1)) ∧ w = w' := by
  have hne := colon_no x h
  rcases h with rfl | rfl | rfl
  all_goals
    go_enter Tryz.func67, Tryz.ntmps67
    go_wp2
    refine wp_loop_rounds 2 ?_; rw [rounds_succ]
    go_wp2
    rw [rounds_succ]
    go_wp2
    go_ret
    exact ⟨rfl, rfl⟩
theorem zzCut_one (x : UInt8) (h : Abc x) (w : World) : Calls Tryz.prog 64 #[.string ⟨#[x]⟩, .string ⟨#[58]⟩] w fun e w' => e = .returned (.tuple #[.string ⟨#[x]⟩, .string ⟨#[]⟩, .bool false]) ∧ w = w' := by
  go_enter Tryz.func64, Tryz.ntmps64
  go_wp2_with (go_at_call 67; refine (zzIndex_one x h _).mono ?_; rintro e w9 ⟨rfl, rfl⟩)
  go_ret3
  exact ⟨rfl, rfl⟩
/-- A store into a new block. -/
theorem Ext.new_ {S : Nat → Prop} {w w' : World} (h : Ext S w w') {b i : Nat} (hb : w.heap.size ≤ b) (v : Value) : Ext S w (w'.setCell ⟨b, i, none⟩ v) :=
  ⟨h.os, h.tape, h.output, by simpa [World.setCell] using h.size, fun k hk hn => (Below.heap_setCell w' ⟨b, i, none⟩ v k (by show k ≠ b; omega)).trans (h.block k hk hn)⟩
theorem Stp.new_ {Fp Fp' : Nat → Prop} {w w' : World} (h : Stp Fp Fp' w w') {b i : Nat} (hb : w.heap.size ≤ b) (v : Value) : Stp Fp Fp' w (w'.setCell ⟨b, i, none⟩ v) := ⟨h.1.new_ hb v, h.2⟩
theorem DS.far {I : Ids} {Fp : Nat → Prop} {B : Nat → Option Value} {bs rest : List UInt8} {fr : Bool} {w : World} (h : DS I Fp B bs rest fr w) {b i : Nat} (hb : ¬ Fp b) (v : Value) : DS I Fp B bs rest fr (w.setCell ⟨b, i, none⟩ v) :=
  h.keep (by simp [World.setCell]) fun k hk => Below.heap_setCell w ⟨b, i, none⟩ v k (fun e => hb (by have e : k = b := e; exact e ▸ hk))
/-- From behind a new block of the caller's own. -/
theorem Stp.from_alloc {Fp Fp' : Nat → Prop} {w w' : World} {o : Obj} (h : Stp Fp Fp' (w.alloc o) w') : Stp Fp Fp' w w' :=
  ⟨(Ext.alloc w o).trans h.1, fun k hk => (h.2 k hk).imp id (fun e => by simp at e; omega)⟩
set_option maxHeartbeats 4000000 in
set_option maxRecDepth 100000 in
theorem nsname_ok {I : Ids} {Fp : Nat → Prop} {B : Nat → Option Value} {bs r : List UInt8} {x t : UInt8} {fr : Bool} {w : World} (hI : IdOk I) (hB : BOk I B) (h : DS I Fp B bs (x :: t :: r) fr w) (hx : Abc x) (ht : Fin_ t) :
    Calls Tryz.prog 40 #[.pointer (some ⟨I.dd, 0, none⟩)] w fun e w' => e = .returned (.tuple #[.agg #[.string ⟨#[]⟩, .string ⟨#[x]⟩], .bool true]) ∧ ∃ Fp', DS I Fp' B [x] (t :: r) false w' ∧ Stp Fp Fp' w w' := by
  obtain ⟨o, ho⟩ : ∃ o : Obj, o = .cells #[.string ⟨#[]⟩, .string ⟨#[]⟩] 76 := ⟨_, rfl⟩
  have hl := h.lt
  have h0 : DS I Fp B bs (x :: ([] ++ t :: r)) fr (w.alloc o) := h.alloc o
  have H0 := Lib.hid h0
  have HO := Lib.hid ho
  have HL := Lib.hid hl
  have HB := Lib.hid hB
  clear h h0 ho hl hB
  go_enter Tryz.func40, Tryz.ntmps40
  go_wp2_with (go_at_call 42; refine (name_ok hI HB.out (by exact (HO.out ▸ H0.out)) hx.let_ (by simp) ht (by simp)).mono ?_; rintro e w1 ⟨rfl, Fp1, h1, hS1⟩; have H1 := Lib.hid h1; have HS1 := Lib.hid hS1; clear h1 hS1; refine Hid.out ?_)
  refine Lib.hid ?_
  have hN : ¬ Fp w.heap.size := fun e => absurd (HL.out _ e) (Nat.lt_irrefl _)
  have hN1 : ¬ Fp1 w.heap.size := fun e => (HS1.out.2 _ e).elim hN (fun e => by simp at e; omega)
  have hb : w1.heap[w.heap.size]? = some (.cells #[.string ⟨#[]⟩, .string ⟨#[]⟩] 76 (0, 0)) := (HS1.out.1.block _ (by simp) hN).trans (heap_alloc_new w _)
  have c0 : w1.cell? ⟨w.heap.size, 0, none⟩ = some (.string ⟨#[]⟩) := by rw [Lib.cell_of_heap hb]; rfl
  have c1 : w1.cell? ⟨w.heap.size, 1, none⟩ = some (.string ⟨#[]⟩) := by rw [Lib.cell_of_heap hb]; rfl
  have f0 : w1.frozen? ⟨w.heap.size, 0, none⟩ = false := Lib.frozen_of_heap hb _
  have f1 : w1.frozen? ⟨w.heap.size, 1, none⟩ = false := Lib.frozen_of_heap hb _
  have HBK := Lib.hid hb
  clear hb
  go_wp2_with (first | (go_at_call 63; refine (zzCount_one x hx _).mono ?_; rintro e w9 ⟨rfl, rfl⟩) | (go_at_call 64; refine (zzCut_one x hx _).mono ?_; rintro e w9 ⟨rfl, rfl⟩))
  refine bodyPost_ret (v := .tuple #[.agg #[.string ⟨#[]⟩, .string ⟨#[x]⟩], .bool true]) (by simp [results, Tryz.results40, go_sem, c0, c1]) rfl ⟨rfl, Fp1, ?_, ?_⟩
  · first | exact ((H1.out.far hN1 _).far hN1 _).far hN1 _ | exact (H1.out.far hN1 _).far hN1 _ | exact H1.out.far hN1 _
  · first | exact ((HS1.out.from_alloc.new_ (Nat.le_refl _) _).new_ (Nat.le_refl _) _).new_ (Nat.le_refl _) _ | exact (HS1.out.from_alloc.new_ (Nat.le_refl _) _).new_ (Nat.le_refl _) _ | exact HS1.out.from_alloc.new_ (Nat.le_refl _) _

end Go.Proofs.YthhmnnojgjpibaaGreatDoor
namespace Go.Proofs.YthhmnnojgjpibaaGreatDoor
open Go Go.RowKit Go.Lib

attribute [local go_sem ↓] Go.wp_at_zero Go.wp_at_succ
theorem lower65 (w : World) : Calls Tryz.prog 88 #[.int .u8 65] w fun e w' => e = .returned (.int .u8 97) ∧ w = w' := by
  go_enter Tryz.func88, Tryz.ntmps88
  go_wp2
  go_ret
  exact ⟨by simp; decide, rfl⟩
theorem lower68 (w : World) : Calls Tryz.prog 88 #[.int .u8 68] w fun e w' => e = .returned (.int .u8 100) ∧ w = w' := by
  go_enter Tryz.func88, Tryz.ntmps88
  go_wp2
  go_ret
  exact ⟨by simp; decide, rfl⟩
set_option maxHeartbeats 4000000 in
set_option maxRecDepth 100000 in
theorem pi_9 (w : World) : Calls Tryz.prog 74 #[.string ⟨#[57]⟩, .int .i64 16, .int .i64 64] w fun e w' => e = .returned (.tuple #[.int .u64 9, .nilIface]) ∧ Below w.heap.size w w' := by
  obtain ⟨U, hU⟩ : ∃ U, U = bytesWorld w 5 ⟨#[57]⟩ := ⟨_, rfl⟩
  obtain ⟨c, hc⟩ : ∃ c, c = grownCap w 1 0 5 := ⟨_, rfl⟩
  have hcv : (convert 9 39 (.string ⟨#[57]⟩)).run Tryz.prog w = .ok (.slice (some ⟨w.heap.size, 0, none⟩) 1 c) U := by
    rw [hU, hc]; exact Lib.run_convert_string_bytes w 9 39 5 ⟨#[57]⟩ Tryz.underlying9 Tryz.underlying39 Tryz.underlying5
  have c0 : U.cell? ⟨w.heap.size, 0, none⟩ = some (.int .u8 57) := by rw [hU]; exact bytesWorld_cell w 5 ⟨#[57]⟩ 0 (by decide)
  have hb : Below w.heap.size w U := by rw [hU]; exact bytesWorld_below _ _ _
  have HB := Lib.hid hb
  clear hU hc hb
  go_enter Tryz.func74, Tryz.ntmps74
  go_wp2
  refine wp_loop_rounds 2 ?_; rw [rounds_succ]
  go_wp2
  rw [rounds_succ]
  go_wp2
  go_ret2
  exact ⟨rfl, HB.out⟩
theorem pu_9 (w : World) : Calls Tryz.prog 57 #[.string ⟨#[57]⟩, .int .i64 16, .int .i64 64] w fun e w' => e = .returned (.tuple #[.int .u64 9, .nilIface]) ∧ Below w.heap.size w w' := by
  go_enter Tryz.func57, Tryz.ntmps57
  go_wp2_with (go_at_call 74; refine (pi_9 _).mono ?_; rintro e w2 ⟨rfl, hb⟩)
  go_ret2
  exact ⟨rfl, hb⟩
set_option maxHeartbeats 4000000 in
set_option maxRecDepth 100000 in
theorem pi_A (w : World) : Calls Tryz.prog 74 #[.string ⟨#[65]⟩, .int .i64 16, .int .i64 64] w fun e w' => e = .returned (.tuple #[.int .u64 10, .nilIface]) ∧ Below w.heap.size w w' := by
  obtain ⟨U, hU⟩ : ∃ U, U = bytesWorld w 5 ⟨#[65]⟩ := ⟨_, rfl⟩
  obtain ⟨c, hc⟩ : ∃ c, c = grownCap w 1 0 5 := ⟨_, rfl⟩
  have hcv : (convert 9 39 (.string ⟨#[65]⟩)).run Tryz.prog w = .ok (.slice (some ⟨w.heap.size, 0, none⟩) 1 c) U := by
    rw [hU, hc]; exact Lib.run_convert_string_bytes w 9 39 5 ⟨#[65]⟩ Tryz.underlying9 Tryz.underlying39 Tryz.underlying5
  have c0 : U.cell? ⟨w.heap.size, 0, none⟩ = some (.int .u8 65) := by rw [hU]; exact bytesWorld_cell w 5 ⟨#[65]⟩ 0 (by decide)
  have hb : Below w.heap.size w U := by rw [hU]; exact bytesWorld_below _ _ _
  have HB := Lib.hid hb
  clear hU hc hb
  go_enter Tryz.func74, Tryz.ntmps74
  go_wp2
  refine wp_loop_rounds 2 ?_; rw [rounds_succ]
  go_wp2_with (go_at_call 88; refine (lower65 _).mono ?_; rintro e w9 ⟨rfl, rfl⟩)
  rw [rounds_succ]
  go_wp2_with (go_at_call 88; refine (lower65 _).mono ?_; rintro e w9 ⟨rfl, rfl⟩)
  go_ret2
  exact ⟨rfl, HB.out⟩
theorem pu_A (w : World) : Calls Tryz.prog 57 #[.string ⟨#[65]⟩, .int .i64 16, .int .i64 64] w fun e w' => e = .returned (.tuple #[.int .u64 10, .nilIface]) ∧ Below w.heap.size w w' := by
  go_enter Tryz.func57, Tryz.ntmps57
  go_wp2_with (go_at_call 74; refine (pi_A _).mono ?_; rintro e w2 ⟨rfl, hb⟩)
  go_ret2
  exact ⟨rfl, hb⟩
set_option maxHeartbeats 4000000 in
set_option maxRecDepth 100000 in
theorem pi_D (w : World) : Calls Tryz.prog 74 #[.string ⟨#[68]⟩, .int .i64 16, .int .i64 64] w fun e w' => e = .returned (.tuple #[.int .u64 13, .nilIface]) ∧ Below w.heap.size w w' := by
  obtain ⟨U, hU⟩ : ∃ U, U = bytesWorld w 5 ⟨#[68]⟩ := ⟨_, rfl⟩
  obtain ⟨c, hc⟩ : ∃ c, c = grownCap w 1 0 5 := ⟨_, rfl⟩
  have hcv : (convert 9 39 (.string ⟨#[68]⟩)).run Tryz.prog w = .ok (.slice (some ⟨w.heap.size, 0, none⟩) 1 c) U := by
    rw [hU, hc]; exact Lib.run_convert_string_bytes w 9 39 5 ⟨#[68]⟩ Tryz.underlying9 Tryz.underlying39 Tryz.underlying5
  have c0 : U.cell? ⟨w.heap.size, 0, none⟩ = some (.int .u8 68) := by rw [hU]; exact bytesWorld_cell w 5 ⟨#[68]⟩ 0 (by decide)
  have hb : Below w.heap.size w U := by rw [hU]; exact bytesWorld_below _ _ _
  have HB := Lib.hid hb
  clear hU hc hb
  go_enter Tryz.func74, Tryz.ntmps74
  go_wp2
  refine wp_loop_rounds 2 ?_; rw [rounds_succ]
  go_wp2_with (go_at_call 88; refine (lower68 _).mono ?_; rintro e w9 ⟨rfl, rfl⟩)
  rw [rounds_succ]
  go_wp2_with (go_at_call 88; refine (lower68 _).mono ?_; rintro e w9 ⟨rfl, rfl⟩)
  go_ret2
  exact ⟨rfl, HB.out⟩
theorem pu_D (w : World) : Calls Tryz.prog 57 #[.string ⟨#[68]⟩, .int .i64 16, .int .i64 64] w fun e w' => e = .returned (.tuple #[.int .u64 13, .nilIface]) ∧ Below w.heap.size w w' := by
  go_enter Tryz.func57, Tryz.ntmps57
  go_wp2_with (go_at_call 74; refine (pi_D _).mono ?_; rintro e w2 ⟨rfl, hb⟩)
  go_ret2
  exact ⟨rfl, hb⟩
set_option maxHeartbeats 4000000 in
set_option maxRecDepth 100000 in
theorem pi_34 (w : World) : Calls Tryz.prog 74 #[.string ⟨#[51, 52]⟩, .int .i64 10, .int .i64 64] w fun e w' => e = .returned (.tuple #[.int .u64 34, .nilIface]) ∧ Below w.heap.size w w' := by
  obtain ⟨U, hU⟩ : ∃ U, U = bytesWorld w 5 ⟨#[51, 52]⟩ := ⟨_, rfl⟩
  obtain ⟨c, hc⟩ : ∃ c, c = grownCap w 2 0 5 := ⟨_, rfl⟩
  have hcv : (convert 9 39 (.string ⟨#[51, 52]⟩)).run Tryz.prog w = .ok (.slice (some ⟨w.heap.size, 0, none⟩) 2 c) U := by
    rw [hU, hc]; exact Lib.run_convert_string_bytes w 9 39 5 ⟨#[51, 52]⟩ Tryz.underlying9 Tryz.underlying39 Tryz.underlying5
  have c0 : U.cell? ⟨w.heap.size, 0, none⟩ = some (.int .u8 51) := by rw [hU]; exact bytesWorld_cell w 5 ⟨#[51, 52]⟩ 0 (by decide)
  have c1 : U.cell? ⟨w.heap.size, 1, none⟩ = some (.int .u8 52) := by rw [hU]; exact bytesWorld_cell w 5 ⟨#[51, 52]⟩ 1 (by decide)
  have hb : Below w.heap.size w U := by rw [hU]; exact bytesWorld_below _ _ _
  have HB := Lib.hid hb
  clear hU hc hb
  go_enter Tryz.func74, Tryz.ntmps74
  go_wp2
  refine wp_loop_rounds 3 ?_; rw [rounds_succ]
  go_wp2
  rw [rounds_succ]
  go_wp2
  rw [rounds_succ]
  go_wp2
  go_ret2
  exact ⟨rfl, HB.out⟩
theorem pu_34 (w : World) : Calls Tryz.prog 57 #[.string ⟨#[51, 52]⟩, .int .i64 10, .int .i64 64] w fun e w' => e = .returned (.tuple #[.int .u64 34, .nilIface]) ∧ Below w.heap.size w w' := by
  go_enter Tryz.func57, Tryz.ntmps57
  go_wp2_with (go_at_call 74; refine (pi_34 _).mono ?_; rintro e w2 ⟨rfl, hb⟩)
  go_ret2
  exact ⟨rfl, hb⟩
set_option maxHeartbeats 4000000 in
set_option maxRecDepth 100000 in
theorem pi_39 (w : World) : Calls Tryz.prog 74 #[.string ⟨#[51, 57]⟩, .int .i64 10, .int .i64 64] w fun e w' => e = .returned (.tuple #[.int .u64 39, .nilIface]) ∧ Below w.heap.size w w' := by
  obtain ⟨U, hU⟩ : ∃ U, U = bytesWorld w 5 ⟨#[51, 57]⟩ := ⟨_, rfl⟩
  obtain ⟨c, hc⟩ : ∃ c, c = grownCap w 2 0 5 := ⟨_, rfl⟩
  have hcv : (convert 9 39 (.string ⟨#[51, 57]⟩)).run Tryz.prog w = .ok (.slice (some ⟨w.heap.size, 0, none⟩) 2 c) U := by
    rw [hU, hc]; exact Lib.run_convert_string_bytes w 9 39 5 ⟨#[51, 57]⟩ Tryz.underlying9 Tryz.underlying39 Tryz.underlying5
  have c0 : U.cell? ⟨w.heap.size, 0, none⟩ = some (.int .u8 51) := by rw [hU]; exact bytesWorld_cell w 5 ⟨#[51, 57]⟩ 0 (by decide)
  have c1 : U.cell? ⟨w.heap.size, 1, none⟩ = some (.int .u8 57) := by rw [hU]; exact bytesWorld_cell w 5 ⟨#[51, 57]⟩ 1 (by decide)
  have hb : Below w.heap.size w U := by rw [hU]; exact bytesWorld_below _ _ _
  have HB := Lib.hid hb
  clear hU hc hb
  go_enter Tryz.func74, Tryz.ntmps74
  go_wp2
  refine wp_loop_rounds 3 ?_; rw [rounds_succ]
  go_wp2
  rw [rounds_succ]
  go_wp2
  rw [rounds_succ]
  go_wp2
  go_ret2
  exact ⟨rfl, HB.out⟩
theorem pu_39 (w : World) : Calls Tryz.prog 57 #[.string ⟨#[51, 57]⟩, .int .i64 10, .int .i64 64] w fun e w' => e = .returned (.tuple #[.int .u64 39, .nilIface]) ∧ Below w.heap.size w w' := by
  go_enter Tryz.func57, Tryz.ntmps57
  go_wp2_with (go_at_call 74; refine (pi_39 _).mono ?_; rintro e w2 ⟨rfl, hb⟩)
  go_ret2
  exact ⟨rfl, hb⟩
theorem ent_lt (w : World) : Calls Tryz.prog 60 #[.string ⟨#[108, 116]⟩] w fun e w' => e = .returned (.tuple #[.int .i32 60, .bool true]) ∧ w = w' := by
  go_enter Tryz.func60, Tryz.ntmps60
  go_wp2
  go_ret2
  exact ⟨rfl, rfl⟩
theorem ent_gt (w : World) : Calls Tryz.prog 60 #[.string ⟨#[103, 116]⟩] w fun e w' => e = .returned (.tuple #[.int .i32 62, .bool true]) ∧ w = w' := by
  go_enter Tryz.func60, Tryz.ntmps60
  go_wp2
  go_ret2
  exact ⟨rfl, rfl⟩
theorem ent_amp (w : World) : Calls Tryz.prog 60 #[.string ⟨#[97, 109, 112]⟩] w fun e w' => e = .returned (.tuple #[.int .i32 38, .bool true]) ∧ w = w' := by
  go_enter Tryz.func60, Tryz.ntmps60
  go_wp2
  go_ret2
  exact ⟨rfl, rfl⟩
set_option maxHeartbeats 4000000 in
set_option maxRecDepth 100000 in
theorem range_yes (r : Nat) (h : inR r = true) (w : World) : Calls Tryz.prog 23 #[.int .i32 (r : Int)] w fun e w' => e = .returned (.bool true) ∧ w = w' := by
  simp only [inR, Bool.or_eq_true, Bool.and_eq_true, beq_iff_eq, decide_eq_true_eq] at h
  have h9 : ∀ n : Int, (r : Int) ≠ n → ((r : Int) == n) = false := fun n e => by simpa using e
  rcases h with ((((rfl | rfl) | rfl) | ⟨h1, h2⟩) | ⟨h1, h2⟩) | ⟨h1, h2⟩
  · go_enter Tryz.func23, Tryz.ntmps23
    go_wp2
    go_ret
    exact ⟨rfl, rfl⟩
  · go_enter Tryz.func23, Tryz.ntmps23
    go_wp2
    go_ret
    exact ⟨rfl, rfl⟩
  · go_enter Tryz.func23, Tryz.ntmps23
    go_wp2
    go_ret
    exact ⟨rfl, rfl⟩
  all_goals
    have e1 := h9 9 (by omega)
    have e2 := h9 10 (by omega)
    have e3 := h9 13 (by omega)
    obtain ⟨x, hx⟩ : ∃ x : Int, x = (r : Int) := ⟨_, rfl⟩
    rw [← hx] at e1 e2 e3 ⊢
    clear h9
  · have q1 : (32 : Int) ≤ x := by omega
    have q2 : x ≤ 55295 := by omega
    clear hx h1 h2
    go_enter Tryz.func23, Tryz.ntmps23
    go_wp2
    go_ret
    exact ⟨rfl, rfl⟩
  · have q1 : (57344 : Int) ≤ x := by omega
    have q2 : x ≤ 65533 := by omega
    have q3 : (32 : Int) ≤ x := by omega
    have q4 : ¬ x ≤ 55295 := by omega
    clear hx h1 h2
    go_enter Tryz.func23, Tryz.ntmps23
    go_wp2
    go_ret
    exact ⟨rfl, rfl⟩
  · have q1 : (65536 : Int) ≤ x := by omega
    have q2 : x ≤ 1114111 := by omega
    have q3 : (32 : Int) ≤ x := by omega
    have q4 : ¬ x ≤ 55295 := by omega
    have q5 : (57344 : Int) ≤ x := by omega
    have q6 : ¬ x ≤ 65533 := by omega
    clear hx h1 h2
    go_enter Tryz.func23, Tryz.ntmps23
    go_wp2
    go_ret
    exact ⟨rfl, rfl⟩
/-- string(rune(c)), c ASCII. -/
theorem rune_str (c : Int) (x : UInt8) (h : (c, x) = (34, 34) ∨ (c, x) = (39, 39) ∨ (c, x) = (9, 9) ∨ (c, x) = (10, 10) ∨ (c, x) = (13, 13) ∨ (c, x) = (38, 38) ∨ (c, x) = (60, 60) ∨ (c, x) = (62, 62)) (w : World) :
    (convert 21 9 (.int .i32 c)).run Tryz.prog w = .ok (.string ⟨#[x]⟩) w := by
  rcases h with h | h | h | h | h | h | h | h <;> (obtain ⟨rfl, rfl⟩ := Prod.mk.inj h; kernel_rfl)

end Go.Proofs.YthhmnnojgjpibaaGreatDoor
