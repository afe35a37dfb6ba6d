/-
  Numbers written to a receiver that may have room: set, setWord. Conditions: what is read can be read.
-/
import Derived.Test.YtbepihdlaidikaaDoorNR
import Derived.Test.YtbepihdlaidikaaDoorSetN
set_option linter.unusedSimpArgs false
set_option linter.unusedVariables false
namespace Go.Proofs.YtbepihdlaidikaaDoor
open Go.Big Go.RowKit
/-- the word at the upper end -/
theorem snoc_put {w w1 : World} {x ox lu : Nat} {Z zs : List Int} (c : Int) (h : Wr 48 w x ox Z) (hl : Z.length = lu + 1) (h1 : Wr 48 w1 x ox zs) (hzl : zs.length = lu) (hf : Fc 48 (In1 x ox lu) w w1) :
    w1.frozen? ⟨x, ox + lu, none⟩ = false ∧ (∃ old, w1.cell? ⟨x, ox + lu, none⟩ = some (.int .u64 old)) ∧ Wr 48 (w1.setCell ⟨x, ox + lu, none⟩ (.int .u64 c)) x ox (zs ++ [c]) ∧ Fc 48 (In1 x ox (lu + 1)) w (w1.setCell ⟨x, ox + lu, none⟩ (.int .u64 c)) := by
  have h2 := h.upd (i := 0) h1 (by rw [hzl]; exact hf) (by omega)
  have hl2 : (spl Z 0 zs).length = lu + 1 := by rw [spl_len (by omega), hl]
  have hs := spl_set_end (L := Z) (o := 0) (cs := zs) (by omega) c
  rw [spl_all (L := Z) (cs := zs ++ [c]) (by rw [List.length_append, hzl, hl]; rfl), Nat.zero_add, hzl] at hs
  have h3 := h2.set (j := lu) (by omega) c
  rw [hs] at h3
  refine ⟨h2.frozen _, ⟨_, h2.cell (j := lu) (by omega)⟩, h3, (hf.mono (fun b i hh _ => ⟨hh.1, hh.2.1, by have := hh.2.2; omega⟩)).t ((Fc.set1 h2 (j := lu) (by omega) c).mono (fun b i hh _ => ⟨hh.1, by have := hh.2.1; omega, by have := hh.2.2; omega⟩))⟩
/-- what a call leaves that writes one number to a receiver: in its place or in a new block -/
def PutR (w : World) (A : Option Addr) (b o c : Nat) (V : Int) (A' : Option Addr) (b' o' c' : Nat) (zs : List Int) (w' : World) : Prop :=
  Nm w' A' b' o' c' zs ∧ DG 18446744073709551616 zs ∧ NZ zs ∧ val 18446744073709551616 zs = V ∧ ((A' = A ∧ b' = b ∧ o' = o ∧ c' = c) ∨ (w.heap.size ≤ b' ∧ c' ≤ 2000000)) ∧ Fc 48 (In1 b o c) w w'
theorem In1.cap {b o n c x i : Nat} (h : In1 b o n x i) (hn : n ≤ c) : In1 b o c x i := ⟨h.1, h.2.1, by have := h.2.2; omega⟩
theorem makeR0 (A : Option Addr) (l c : Nat) (w : World) (hl : l ≤ c) (hc : c ≤ maxLen) : Calls Tryd.prog 29 #[.slice A l c, .int .i64 0] w fun e w' => e = .returned (.slice A 0 c) ∧ w = w' := by
  unfold maxLen at hc
  go_enter Tryd.func29, Tryd.ntmps29
  go_wp2_with fail
  go_ret
  exact ⟨rfl, rfl⟩
theorem setR0 (A : Option Addr) (l b o c : Nat) (Ax : Option Addr) (cx : Nat) (w : World) (h : Rcv w A b o c) (hl : l ≤ c) (hcx : cx ≤ maxLen) :
    Calls Tryd.prog 33 #[.slice A l c, .slice Ax 0 cx] w fun e w' => e = .returned (.slice A 0 c) ∧ w = w' := by
  have hc := h.max
  have CM := Lib.hid (makeR0 A l c w hl hc)
  unfold maxLen at hc hcx
  go_enter Tryd.func33, Tryd.ntmps33
  go_wp2_with (first
    | (go_at_call 29; refine (CM.out).mono ?_; rintro e w1 ⟨rfl, rfl⟩)
    | (refine wpList_copy_nothing rfl (.tmp 9) (.tmp 10) _ _ rfl 48 Tryd.underlying36 size_wordS A Ax 0 c 0 cx rfl rfl rfl ?_))
  go_ret
  exact ⟨rfl, rfl⟩
/-- set, at any length -/
theorem setR_all (A : Option Addr) (l b o c : Nat) (Ax : Option Addr) (bx ox cx : Nat) (xs : List Int) (w : World) (hx : Nm w Ax bx ox cx xs) (hd : DG 18446744073709551616 xs) (hzx : NZ xs) (h : Rcv w A b o c) (hl : l ≤ c) (hx9 : xs.length ≤ 1000000) :
    Calls Tryd.prog 33 #[.slice A l c, .slice Ax xs.length cx] w fun e w' => ∃ A' b' o' c' zs, e = .returned (.slice A' zs.length c') ∧ PutR w A b o c (val 18446744073709551616 xs) A' b' o' c' zs w' := by
  by_cases h0 : xs.length = 0
  · obtain rfl : xs = [] := List.eq_nil_of_length_eq_zero h0
    refine (setR0 A l b o c Ax cx w h hl hx.max).mono ?_
    rintro e w' ⟨rfl, rfl⟩
    exact ⟨A, b, o, c, [], rfl, Nm.nil h, DG.nil _, NZ.nil, rfl, .inl ⟨rfl, rfl, rfl, rfl⟩, Fc.refl _ _ _⟩
  · have C := Lib.hid (makeR_any A l b o c xs.length w h hl (by omega) (by omega))
    have HX := Lib.hid hx
    have HD := Lib.hid hd
    have HZ := Lib.hid hzx
    have HR := Lib.hid h
    clear hx hd hzx h0
    go_enter Tryd.func33, Tryd.ntmps33
    go_wp2_with (first
      | (go_at_call 29; refine (Hid.out C).mono ?_; clear C; intro e w1 hm; obtain ⟨b', o', c', Z, rfl, h1, h2, h3, h4, h5, h6, h7⟩ := hm.out (fun hc => HR.out.lt hc); have H2 := Lib.hid h2; have H3 := Lib.hid h3; have H4 := Lib.hid h4; have H5 := Lib.hid h5; have H7 := Lib.hid h7; have H1 := Lib.hid h1; obtain ⟨_, L, hL, hLl⟩ := h3; have HL := Lib.hid hL; have HLL := Lib.hid (show o' + xs.length ≤ L.length by omega); clear hm h2 h4 h5 h6 h7 hL hLl)
      | (refine wp_copy rfl (.tmp 9) (.tmp 10) _ _ rfl .u64 48 Tryd.underlying36 size_wordS b' o' xs.length c' rfl _ xs rfl (HX.out.fr0 H5.out).sl L HL.out HLL.out ?_; intro w2 row2 f2; have HR2 := Lib.hid row2; have HF2 := Lib.hid f2; clear row2 f2))
    go_ret
    have row2 := HR2.out
    rw [List.take_length] at row2
    have hf2 : Fc 48 (In1 b' o' xs.length) w1 w2 := fc_row (L' := L) HL.out row2 HF2.out HLL.out (fun i a1 a2 => ⟨rfl, a1, a2⟩)
    refine ⟨_, b', o', c', xs, rfl, Nm.of_wr (Wr.of_spl row2 HLL.out) (H2.out.fc hf2) h1, HD.out, HZ.out, rfl, H7.out.imp id (fun a => ⟨a.1, by have := a.2; omega⟩), (Fc.fr0 H5.out _ _).trans hf2 (fun x i hh hlt => ?_)⟩
    rcases H7.out with ⟨_, rfl, rfl, rfl⟩ | ⟨a, _⟩
    · exact In1.cap hh h1
    · have := hh.1; omega
set_option maxRecDepth 100000 in
theorem setWordR_any (A : Option Addr) (l b o c : Nat) (x : Int) (w : World) (h : Rcv w A b o c) (hl : l ≤ c) (h0 : 0 ≤ x) (h1 : x < 18446744073709551616) :
    Calls Tryd.prog 28 #[.slice A l c, .int .u64 x] w fun e w' => ∃ A' b' o' c' zs, e = .returned (.slice A' zs.length c') ∧ PutR w A b o c x A' b' o' c' zs w' := by
  have hc := h.max
  unfold maxLen at hc
  by_cases hx : x = 0
  · subst hx
    have HR := Lib.hid h
    clear h
    go_enter Tryd.func28, Tryd.ntmps28
    go_wp2_with fail
    go_ret
    exact ⟨A, b, o, c, [], rfl, Nm.nil HR.out, DG.nil _, NZ.nil, rfl, .inl ⟨rfl, rfl, rfl, rfl⟩, Fc.refl _ _ _⟩
  · have hx' : (x == 0) = false := by rw [beq_eq_false_iff_ne]; exact hx
    have C := Lib.hid (makeR_any A l b o c 1 w h hl (by omega) (by omega))
    have HR := Lib.hid h
    clear h
    go_enter Tryd.func28, Tryd.ntmps28
    go_wp2_with (go_at_call 29; refine (Hid.out C).mono ?_; clear C; intro e w1 hm; obtain ⟨b', o', c', Z, rfl, g1, h2, h3, h4, h5, h6, h7⟩ := hm.out (fun hc => HR.out.lt hc); have hfz := h3.frozen o'; have cz := h3.cell (j := 0) (by omega); rw [Nat.add_zero] at cz; obtain ⟨old, hold⟩ : ∃ old, old = Z.getD 0 0 := ⟨_, rfl⟩; rw [← hold] at cz; have H2 := Lib.hid h2; have H3 := Lib.hid h3; have H4 := Lib.hid h4; have H5 := Lib.hid h5; have H7 := Lib.hid h7; clear hm h2 h3 h4 h5 h6 h7 hold)
    go_ret
    have hs := H3.out.set (j := 0) (by have := H4.out; omega) x
    have hf := Fc.set1 H3.out (j := 0) (by have := H4.out; omega) x
    rw [Nat.add_zero] at hs hf
    obtain ⟨z0, rfl⟩ := List.length_eq_one_iff.1 H4.out
    rw [show [z0].set 0 x = [x] from rfl] at hs
    refine ⟨_, b', o', c', [x], rfl, Nm.of_wr hs (H2.out.fc hf) g1, DG.cons h0 h1 (DG.nil _), .inr (by simpa using hx), by simp [val_cons, val_nil], H7.out.imp id (fun a => ⟨a.1, by have := a.2; omega⟩), (Fc.fr0 H5.out _ _).trans hf (fun x i hh hlt => ?_)⟩
    rcases H7.out with ⟨_, rfl, rfl, rfl⟩ | ⟨a, _⟩
    · exact In1.cap hh g1
    · have := hh.1; omega
end Go.Proofs.YtbepihdlaidikaaDoor
