/-
  What the listed package variables hold, out of the row's condition. Conditions: the condition.
-/
import Derived.Test.YtbepihdlaidikaaDoorRows
import Derived.Test.YtbepihdlaidikaaDoorTz
import Derived.ProofKit
import Derived.LaidMore
import Derived.Lib.LaidTab
import Derived.Stop.LaidErr
set_option linter.unusedSimpArgs false
set_option linter.unusedVariables false
namespace Go.Big
open Go.ChangeShapes Go.WideShapes Go.ChangeAt
theorem int_of_head {P : Program} {W : World} {name : String} {k : IntKind} {n : Int} {rest : List (String × DataW Unit)} {g : Nat} {t : TypeId}
    (hg : P.globalNamed name = some g) (hty : (P.globals[g]?).map (·.type) = some t) (ht : P.underlying t = some (.int k)) (h : laidMet P ((name, .lit (.int k n)) :: rest) W) : W.cell? ⟨g, 0, none⟩ = some (.int k n) := by
  obtain ⟨ps, ⟨g', t', cs, fuel, p, q, hg', ht', hvar, hd, _, _⟩, _⟩ := h
  obtain rfl := Option.some.inj (hg.symm.trans hg')
  obtain rfl := Option.some.inj (hty.symm.trans ht')
  obtain ⟨m, hc, e, _⟩ := DataW.trod_int ht hd
  have := World.var?_cell hg hvar 0
  rw [Array.eq_one_of_toList hc] at this
  injection e with e
  injection e with e
  injection e with e1 e2
  subst e2
  simpa using this
theorem vars_len1 {H : Type} {enc : TypeId × Value → H} {P : Program} {w : World} {sp : Nat → Bool} {n0 : String} {gs : List (DataW H)} {ps : List MemPlace} (h : DataW.TrodVars enc P w sp [n0] gs ps) : ∃ g1, gs = [g1] := by
  cases gs with
  | nil => exact h.elim
  | cons g1 gs1 =>
  obtain ⟨_, _, _, _, _, q1, _, _, _, _, h1, _⟩ := h
  cases gs1 with
  | nil => exact ⟨g1, rfl⟩
  | cons _ _ => exact h1.elim
theorem vars_len2 {H : Type} {enc : TypeId × Value → H} {P : Program} {w : World} {sp : Nat → Bool} {n0 n1 : String} {gs : List (DataW H)} {ps : List MemPlace} (h : DataW.TrodVars enc P w sp [n0, n1] gs ps) : ∃ g1 g2, gs = [g1, g2] := by
  cases gs with
  | nil => exact h.elim
  | cons g1 gs1 =>
  obtain ⟨_, _, _, _, _, q1, _, _, _, _, h1, _⟩ := h
  cases gs1 with
  | nil => exact h1.elim
  | cons g2 gs2 =>
  obtain ⟨_, _, _, _, _, q2, _, _, _, _, h2, _⟩ := h1
  cases gs2 with
  | nil => exact ⟨g1, g2, rfl⟩
  | cons _ _ => exact h2.elim
theorem vars_len3 {H : Type} {enc : TypeId × Value → H} {P : Program} {w : World} {sp : Nat → Bool} {n0 n1 n2 : String} {gs : List (DataW H)} {ps : List MemPlace} (h : DataW.TrodVars enc P w sp [n0, n1, n2] gs ps) : ∃ g1 g2 g3, gs = [g1, g2, g3] := by
  cases gs with
  | nil => exact h.elim
  | cons g1 gs1 =>
  obtain ⟨_, _, _, _, _, q1, _, _, _, _, h1, _⟩ := h
  cases gs1 with
  | nil => exact h1.elim
  | cons g2 gs2 =>
  obtain ⟨_, _, _, _, _, q2, _, _, _, _, h2, _⟩ := h1
  cases gs2 with
  | nil => exact h2.elim
  | cons g3 gs3 =>
  obtain ⟨_, _, _, _, _, q3, _, _, _, _, h3, _⟩ := h2
  cases gs3 with
  | nil => exact ⟨g1, g2, g3, rfl⟩
  | cons _ _ => exact h3.elim
theorem vars_len4 {H : Type} {enc : TypeId × Value → H} {P : Program} {w : World} {sp : Nat → Bool} {n0 n1 n2 n3 : String} {gs : List (DataW H)} {ps : List MemPlace} (h : DataW.TrodVars enc P w sp [n0, n1, n2, n3] gs ps) : ∃ g1 g2 g3 g4, gs = [g1, g2, g3, g4] := by
  cases gs with
  | nil => exact h.elim
  | cons g1 gs1 =>
  obtain ⟨_, _, _, _, _, q1, _, _, _, _, h1, _⟩ := h
  cases gs1 with
  | nil => exact h1.elim
  | cons g2 gs2 =>
  obtain ⟨_, _, _, _, _, q2, _, _, _, _, h2, _⟩ := h1
  cases gs2 with
  | nil => exact h2.elim
  | cons g3 gs3 =>
  obtain ⟨_, _, _, _, _, q3, _, _, _, _, h3, _⟩ := h2
  cases gs3 with
  | nil => exact h3.elim
  | cons g4 gs4 =>
  obtain ⟨_, _, _, _, _, q4, _, _, _, _, h4, _⟩ := h3
  cases gs4 with
  | nil => exact ⟨g1, g2, g3, g4, rfl⟩
  | cons _ _ => exact h4.elim
end Go.Big
namespace Go.Proofs.YtbepihdlaidikaaDoor
open Go.Big Go.RowKit
end Go.Proofs.YtbepihdlaidikaaDoor
