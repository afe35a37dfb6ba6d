/-
  nat.setBit at a nil receiver, and the walk of the law FnSetBit. Conditions: the words can be read.
-/
import Derived.Test.YtknokndpeneogaaDoorTruncL
set_option linter.unusedSimpArgs false
set_option linter.unusedVariables false
namespace Go.Big
theorem spl_pad {c k : Nat} {xs : List Int} (h : xs.length + k ≤ c) : spl (List.replicate c 0) 0 xs = spl (List.replicate c 0) 0 (xs ++ List.replicate k 0) := by
  unfold spl
  simp only [List.take_zero, List.nil_append, Nat.zero_add, List.drop_replicate, List.length_append, List.length_replicate, List.append_assoc]
  rw [List.replicate_append_replicate]
  congr 2
  omega
theorem pad_set {xs : List Int} {j : Nat} {P : Int} (h : xs.length ≤ j) : (xs ++ List.replicate (j + 1 - xs.length) 0).set j P = xs ++ List.replicate (j - xs.length) 0 ++ [P] := by
  rw [List.set_append_right _ _ h, show j + 1 - xs.length = (j - xs.length) + 1 by omega, List.replicate_succ', List.set_append_right _ _ (by simp), List.length_replicate, Nat.sub_self, List.append_assoc]
  rfl
theorem spl_same {c o k : Nat} (h : o + k ≤ c) : spl (List.replicate c (0 : Int)) o (List.replicate k 0) = List.replicate c 0 := by
  unfold spl
  simp only [List.take_replicate, List.drop_replicate, List.length_replicate]
  rw [List.replicate_append_replicate, List.replicate_append_replicate]
  congr 1
  omega
theorem NZ.set {xs : List Int} {j : Nat} {t : Int} (h : NZ xs) (hj : j < xs.length) (ht : t ≠ 0) : NZ (xs.set j t) := by
  right
  rw [List.length_set]
  by_cases e : xs.length - 1 = j
  · rw [e, getD_set_self _ hj]; exact ht
  · rw [getD_set _ (by omega)]
    rcases h with h | h
    · subst h; simp at hj
    · exact h
theorem NZ.snoc {xs : List Int} {P : Int} (h : P ≠ 0) : NZ (xs ++ [P]) := by
  right
  simp [List.getD_eq_getElem?_getD, h]
end Go.Big
namespace Go.Proofs.YtknokndpeneogaaDoor
open Go.Big Go.RowKit
end Go.Proofs.YtknokndpeneogaaDoor
