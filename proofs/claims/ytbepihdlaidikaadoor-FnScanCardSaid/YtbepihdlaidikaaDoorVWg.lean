/-
  addVW, subVW where the operand lies apart in whatever block, or where the target is. Conditions: what is read can be read, what is written is a part of a row of words.
-/
import Derived.Test.YtbepihdlaidikaaDoorBMul
import Derived.Test.YtbepihdlaidikaaDoorgAdd
import Derived.Test.YtbepihdlaidikaaDoorgStk
set_option linter.unusedSimpArgs false
set_option linter.unusedVariables false
namespace Go.Big
open Go.RowKit
theorem row_or {k : IntKind} {T : TypeId} {w w1 : World} {bx bz : Nat} {X L L1 : List Int} (hX : Row k T w bx X) (hL : Row k T w1 bz L1) (hf : Fr [bz] w w1) : ∃ X1, Row k T w1 bx X1 := by
  by_cases e : bx = bz
  · subst e; exact ⟨_, hL⟩
  · exact ⟨_, hX.fr hf (by simpa using e)⟩
/-- a stretch written with what it holds -/
theorem spl_self {k : IntKind} {T : TypeId} {w : World} {b o : Nat} {L xs : List Int} (hr : Row k T w b L) (hs : Src k w b o xs) (hfit : o + xs.length ≤ L.length) : spl L o xs = L := by
  have hl := spl_len hfit
  refine List.ext_getElem hl (fun j h1 h2 => ?_)
  have e : (spl L o xs).getD j 0 = L.getD j 0 := by
    by_cases hin : o ≤ j ∧ j < o + xs.length
    · obtain ⟨i, rfl⟩ : ∃ i, j = o + i := ⟨j - o, by omega⟩
      rw [spl_get_in (by omega) (by omega)]
      have h := hs i (by omega)
      rw [hr.cell h2] at h
      injection h with h
      injection h with _ h
      exact h.symm
    · exact spl_getD_out hfit hin
  rwa [getD_in h1, getD_in h2] at e
theorem spl_pre {L xs pre : List Int} {o : Nat} (h : spl L o xs = L) (hfit : o + xs.length ≤ L.length) (hp : pre.length ≤ xs.length) : spl L o (pre ++ xs.drop pre.length) = spl L o pre := by
  have hl1 : (pre ++ xs.drop pre.length).length = xs.length := by rw [List.length_append, List.length_drop]; omega
  have a1 := spl_len (L := L) (o := o) (cs := pre ++ xs.drop pre.length) (by omega)
  have a2 := spl_len (L := L) (o := o) (cs := pre) (by omega)
  refine List.ext_getElem (a1.trans a2.symm) (fun j h1 h2 => ?_)
  have e : (spl L o (pre ++ xs.drop pre.length)).getD j 0 = (spl L o pre).getD j 0 := by
    rw [a1] at h1
    by_cases hin : o ≤ j ∧ j < o + xs.length
    · obtain ⟨i, rfl⟩ : ∃ i, j = o + i := ⟨j - o, by omega⟩
      rw [spl_get_in (by omega) (by omega)]
      by_cases hi : i < pre.length
      · rw [spl_get_in (by omega) hi]
        simp [List.getD_eq_getElem?_getD, List.getElem?_append_left hi]
      · rw [spl_getD_out (by omega) (by omega)]
        have e2 := spl_get_in (L := L) (o := o) (cs := xs) (j := i) (by omega) (by omega)
        rw [h] at e2
        rw [e2]
        simp only [List.getD_eq_getElem?_getD]
        rw [List.getElem?_append_right (by omega), List.getElem?_drop]
        congr 2; omega
    · rw [spl_getD_out (by omega) (by omega), spl_getD_out (by omega) (by omega)]
  rwa [getD_in h1, getD_in h2] at e
end Go.Big
namespace Go.Proofs.YtbepihdlaidikaaDoor
open Go.Big Go.RowKit
theorem neq_ptrA {a c : Addr} {L X : List Int} {T T' : TypeId} (w : World) (hne : a ≠ c) (hz : Row .u64 T w a.block L) (hx : Row .u64 T' w c.block X) :
    (binOp .neq 78 (.pointer (some a)) (.pointer (some c))).run Tryd.prog w = .ok (.bool true) w := by
  obtain ⟨j, hj, hjs⟩ : ∃ j, Tryd.prog.info? 48 = some j ∧ j.size = 1 := by
    have h := size_wordV
    cases e : Tryd.prog.info? 48 with
    | none => rw [e] at h; cases h
    | some j => rw [e] at h; exact ⟨j, rfl, by simpa using h⟩
  have h : ∀ d : Nat, (Op.equalIn (d + 1) 78 (.pointer (some a)) (.pointer (some c))).run Tryd.prog w = .ok false w := fun d => by
    simp [Op.equalIn, run_underlying Tryd.underlying78, sizeOf, typeInfo, hj, hjs, run_sameAddr_other w hne hz hx]
  simp only [binOp]
  simp [Op.equal, Op.maxDepth, h 9999]
theorem neq_ptrS (a : Addr) (w : World) : (binOp .neq 78 (.pointer (some a)) (.pointer (some a))).run Tryd.prog w = .ok (.bool false) w := by
  obtain ⟨j, hj, hjs⟩ : ∃ j, Tryd.prog.info? 48 = some j ∧ j.size = 1 := by
    have h := size_wordV
    cases e : Tryd.prog.info? 48 with
    | none => rw [e] at h; cases h
    | some j => rw [e] at h; exact ⟨j, rfl, by simpa using h⟩
  have h : ∀ d : Nat, (Op.equalIn (d + 1) 78 (.pointer (some a)) (.pointer (some a))).run Tryd.prog w = .ok true w := fun d => by
    simp [Op.equalIn, run_underlying Tryd.underlying78, sizeOf, typeInfo, hj, hjs, run_sameAddr_same]
  simp only [binOp]
  simp [Op.equal, Op.maxDepth, h 9999]
end Go.Proofs.YtbepihdlaidikaaDoor
