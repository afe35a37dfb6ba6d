/-
  impl.wordsOf: an Int's words, copied; Bits, Sign. Conditions: the Int's struct and its words can be read.
-/
import Derived.Test.YtbepihdlaidikaaDoorIntB
import Derived.Test.YtbepihdlaidikaaDoorMadR
set_option linter.unusedSimpArgs false
set_option linter.unusedVariables false
namespace Go.Proofs.YtbepihdlaidikaaDoor
open Go.Big Go.RowKit
theorem bits_any {w : World} {p l c : Nat} {neg : Bool} {A : Option Addr} (h : IntB w p neg A l c) :
    Calls Tryd.prog 17 #[.pointer (some ⟨p, 0, none⟩)] w fun e w' => e = .returned (.slice A l c) ∧ w = w' := by
  have c1 := h.cell1
  clear h
  go_enter Tryd.func17, Tryd.ntmps17
  go_wp2_with fail
  go_ret
  exact ⟨rfl, rfl⟩
theorem sign_pos {w : World} {p l c : Nat} {A : Option Addr} (h : IntB w p false A l c) (hl : 0 < l) (hl9 : l ≤ 1000000) :
    Calls Tryd.prog 11 #[.pointer (some ⟨p, 0, none⟩)] w fun e w' => e = .returned (.int .i64 1) ∧ w = w' := by
  have c1 := h.cell1
  have c0 := h.cell0
  have hl0 : ((l : Int) == 0) = false := by rw [beq_eq_false_iff_ne]; omega
  clear h
  go_enter Tryd.func11, Tryd.ntmps11
  go_wp2_with fail
  go_ret
  exact ⟨rfl, rfl⟩
theorem sign_nil {w : World} {p c : Nat} {neg : Bool} {A : Option Addr} (h : IntB w p neg A 0 c) :
    Calls Tryd.prog 11 #[.pointer (some ⟨p, 0, none⟩)] w fun e w' => e = .returned (.int .i64 0) ∧ w = w' := by
  have c1 := h.cell1
  clear h
  go_enter Tryd.func11, Tryd.ntmps11
  go_wp2_with fail
  go_ret
  exact ⟨rfl, rfl⟩
def WoRel (xs : List Int) (w0 : World) (g : Nat) (v3 v9 : Value) (wr : World) : Prop :=
  ∃ (v : Value) (i : Nat), v = v3 ∧ g = xs.length - i ∧ v9 = .int .i64 (i : Int) ∧ i ≤ xs.length ∧ AppZ .u64 47 w0 wr v (xs.take i) ∧ Fr [] w0 wr
theorem take_snoc {xs : List Int} {i : Nat} (h : i < xs.length) : xs.take i ++ [xs.getD i 0] = xs.take (i + 1) := by
  rw [getD_in h, ← List.take_succ_eq_append_getElem h]
set_option maxRecDepth 100000 in
set_option maxHeartbeats 2000000 in
theorem wordsOf_any {w : World} {p c : Nat} {neg : Bool} {A : Option Addr} (xs : List Int) (h : IntB w p neg A xs.length c) (hs : Sl .u64 w (.slice A xs.length c) xs) (hl : xs.length ≤ 900000) :
    Calls Tryd.prog 12 #[.pointer (some ⟨p, 0, none⟩)] w (RetSl xs w) := by
  have CB := Lib.hid (bits_any h)
  obtain ⟨A0, c0, e0, hlc, hm, hsrc⟩ := hs
  injection e0 with e1 e2 e3
  subst e1 e3
  unfold maxLen at hm
  have HS := Lib.hid hsrc
  obtain ⟨m, hM⟩ : ∃ m, m = xs.length := ⟨_, rfl⟩
  have HM := Lib.hid hM
  rw [← hM] at hlc hl CB
  clear h hsrc hM
  go_enter Tryd.func12, Tryd.ntmps12
  go_wp2_with (go_at_call 17; refine (CB.out).mono ?_; rintro e w1 ⟨rfl, rfl⟩)
  go_loopg [3, 9] xs.length (WoRel xs w)
  case atStart => exact ⟨_, 0, rfl, rfl, rfl, Nat.zero_le _, AppZ.nil _ _ _ _, Fr.refl _ _⟩
  case round =>
    obtain ⟨v, i, rfl, rfl, rfl, hi, hz, hf⟩ := hrel
    rw [← HM.out] at hi
    try rw [← HM.out]
    have HZ := Lib.hid hz
    have HF := Lib.hid hf
    have hfs := hf.size
    by_cases h1 : i < m
    · obtain ⟨b, off, rfl, hb, hs⟩ := HS.out (by rw [← HM.out]; omega)
      have hc := (hs.fr hf (by simp)) i (by rw [← HM.out]; exact h1)
      obtain ⟨x, hx⟩ : ∃ x, x = xs.getD i 0 := ⟨_, rfl⟩
      rw [← hx] at hc
      have HX := Lib.hid hx
      have HT := Lib.hid (show (xs.take i).length < 1000000 by rw [List.length_take]; omega)
      have hI : (i : Int) < (m : Int) := by omega
      clear hx hs hz hf
      go_wp2_with (refine wp_appZ rfl (.tmp 13) (.tmp 15) _ rfl .u64 47 8 ty_uints (by omega) v (xs.take i) x rfl HZ.out hfs rfl HT.out ?_; intro v' w6 hz6 hf6; have Z6 := Lib.hid hz6; have F6 := Lib.hid (hf6.fr HF.out); clear hz6 hf6)
      go_roundg (m - (i + 1))
      case measure => (have := HM.out; omega)
      case rel =>
        refine ⟨v', i + 1, rfl, by rw [HM.out], by go_num, by rw [← HM.out]; omega, ?_, F6.out⟩
        have h := Z6.out
        rwa [HX.out, take_snoc (by rw [← HM.out]; exact h1)] at h
    · have hI : ¬ (i : Int) < (m : Int) := by omega
      have HI := Lib.hid (show xs.take i = xs from List.take_of_length_le (by rw [← HM.out]; omega))
      clear hz hf
      go_wp2_with fail
      go_ret
      refine ⟨_, rfl, ?_, HF.out⟩
      have h := HZ.out.sl
      rwa [HI.out] at h
end Go.Proofs.YtbepihdlaidikaaDoor
