/-
  What nat.scan does at its end where digits fit words whole: Reverse, norm and rsh of a number grown by append. Conditions: the number is the walk's own.
-/
import Derived.Test.YtbepihdlaidikaaDoorScG
import Derived.Test.YtbepihdlaidikaaDoorScV
import Derived.Test.YtbepihdlaidikaaDoorRshR
set_option linter.unusedSimpArgs false
set_option linter.unusedVariables false
namespace Go.Proofs.YtbepihdlaidikaaDoor
open Go.Big Go.RowKit
theorem rshR_nil (A : Option Addr) (c s : Nat) (w : World) (hc : c ≤ maxLen) (hs0 : 0 < s) (hs : s < 64) :
    Calls Tryd.prog 27 #[.slice A 0 c, .slice A 0 c, .int .u64 (s : Int)] w fun e w' => e = .returned (.slice A 0 c) ∧ w = w' := by
  have hse : ((s : Int) == 0) = false := by rw [beq_eq_false_iff_ne]; omega
  have hs1 : (s : Int) / 64 = 0 := by omega
  unfold maxLen at hc
  go_enter Tryd.func27, Tryd.ntmps27
  go_wp2_with fail
  go_ret
  exact ⟨rfl, rfl⟩
theorem frB_put {N : Nat} {w w1 : World} {b o c : Nat} (hf : Fc 48 (In1 b o c) w w1) (hN : N ≤ w.heap.size) (hn : c = 0 ∨ N ≤ b) : FrB N w w1 :=
  ⟨hf.os, hf.tape, hf.output, hf.size, fun x hx => hf.block x (by omega) (fun i hi => by have e1 := hi.1; have := hi.2.1; have := hi.2.2; omega)⟩
/-- rsh in place, any length -/
theorem rshZ_any (A : Option Addr) (b o c : Nat) (us : List Int) (s N : Nat) (w : World) (h : Nm w A b o c us) (hd : DG 18446744073709551616 us) (hl : us.length ≤ 1000000) (hN : N ≤ w.heap.size) (hn : c = 0 ∨ N ≤ b) (hs0 : 0 < s) (hs : s < 64) :
    Calls Tryd.prog 27 #[.slice A us.length c, .slice A us.length c, .int .u64 (s : Int)] w fun e w' => ∃ (A' : Option Addr) (c' : Nat) (ys : List Int), e = .returned (.slice A' ys.length c') ∧ SW w' (.slice A' ys.length c') (val 18446744073709551616 us / 2 ^ s) ∧ FrB N w w' := by
  by_cases h0 : us.length = 0
  · obtain rfl : us = [] := List.eq_nil_of_length_eq_zero h0
    refine (rshR_nil A c s w h.max hs0 hs).mono ?_
    rintro e w' ⟨rfl, rfl⟩
    exact ⟨A, c, [], rfl, by rw [val_nil, Int.zero_ediv]; exact ⟨[], h.sl, DG.nil _, NZ.nil, rfl⟩, FrB.refl _ _⟩
  · refine (rshR_lt A us.length b o c A b o c us s w h.rcv h.le h hd (by omega) hl (.inr ⟨rfl, rfl⟩) hs0 hs).mono ?_
    rintro e w' ⟨A', b', o', c', ys, rfl, p1, p2, p3, p4, p5, p6⟩
    exact ⟨A', c', ys, rfl, by have h9 := nm_sw p1 p2 p3; rw [p4] at h9; exact h9, frB_put p6 hN hn⟩
/-- Reverse of a number grown by append -/
theorem rev_appz {w0 w : World} {v : Value} {zs : List Int} (h : AppZ .u64 48 w0 w v zs) (hl : zs.length ≤ 1000000) (hN : w0.heap.size ≤ w.heap.size) :
    ∃ A b c, v = .slice A zs.length c ∧ (c = 0 ∨ w0.heap.size ≤ b) ∧ c ≤ maxLen ∧ Calls Tryd.prog 25 #[.slice A zs.length c] w fun e w' => e = .returned (.tuple #[]) ∧ Nm w' A b 0 c zs.reverse ∧ FrB w0.heap.size w w' := by
  rcases h with ⟨rfl, rfl⟩ | ⟨g, cap, L, rfl, h2, h3, h4, h5, h6, h7⟩
  · refine ⟨none, w.heap.size, 0, rfl, .inl rfl, by unfold maxLen; omega, (reverse_nil none 0 w (by unfold maxLen; omega)).mono ?_⟩
    rintro e w' ⟨rfl, rfl⟩
    exact ⟨rfl, Nm.nil (Rcv.nil _ _ _), FrB.refl _ _⟩
  · refine ⟨_, g, cap, rfl, .inr h2, h6, (reverse_any g cap L zs.length w h3 (by omega) h5 h6 hl).mono ?_⟩
    rintro e w' ⟨rfl, L', r1, r2, r3, r4⟩
    refine ⟨rfl, Nm.of_wr (Wr.of_row r1 (by rw [List.length_reverse]; omega) (fun j hj => ?_)) (Rcv.of_row r1 (by omega) h6) (by rw [List.length_reverse]; exact h5), FrB.of_fr r3 hN (by simp; exact h2)⟩
    rw [List.length_reverse] at hj
    have e1 : zs.reverse.getD j 0 = zs.getD (zs.length - 1 - j) 0 := by
      rw [getD_in (by rw [List.length_reverse]; exact hj), getD_in (by omega), List.getElem_reverse]
    rw [Nat.zero_add, r4 j hj, e1, appZ_get h7 (by omega)]
end Go.Proofs.YtbepihdlaidikaaDoor
