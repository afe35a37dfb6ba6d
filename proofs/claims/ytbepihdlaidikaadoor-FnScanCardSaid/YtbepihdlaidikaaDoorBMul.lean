/-
  basicMul. Conditions: what is read can be read, what is written is a row; the factors lie apart from the product.
-/
import Derived.Test.YtbepihdlaidikaaDoorSetN
import Derived.Test.YtbepihdlaidikaaDoorgVec
import Derived.Deep.RegionWith
set_option linter.unusedSimpArgs false
set_option linter.unusedVariables false
namespace Go.Big
open Go.RowKit
theorem spl_spl {L zs seg : List Int} {o i : Nat} (hL : o + zs.length ≤ L.length) (h : i + seg.length ≤ zs.length) : spl (spl L o zs) (o + i) seg = spl L o (spl zs i seg) := by
  have ht : (L.take o).length = o := by rw [List.length_take]; omega
  have hl : (spl zs i seg).length = zs.length := spl_len h
  unfold spl at *
  rw [List.take_append, List.drop_append]
  simp only [List.length_append, List.length_take, List.take_append, List.drop_append, List.take_take, List.drop_drop, List.length_drop]
  rw [Nat.min_eq_left (show o ≤ L.length by omega), Nat.min_eq_right (show o ≤ o + i by omega), Nat.min_eq_left (show i ≤ zs.length by omega)]
  rw [show o + i - o = i by omega, show i - zs.length = 0 by omega, List.take_zero, List.append_nil]
  rw [List.drop_eq_nil_of_le (show (L.take o).length ≤ o + i + seg.length by omega), List.nil_append]
  rw [show o + i + seg.length - o = i + seg.length by omega]
  rw [show i + seg.length - zs.length = 0 by omega]
  simp only [List.append_assoc]
  rw [show i + (seg.length + (zs.length - (i + seg.length))) = zs.length by omega, Nat.add_zero]
theorem val_spl {B : Int} {zs seg : List Int} {i : Nat} (h : i + seg.length ≤ zs.length) : val B (spl zs i seg) = val B zs + B ^ i * (val B seg - val B ((zs.drop i).take seg.length)) := by
  have e1 := val_split B zs i (by omega)
  have e2 := val_split B (zs.drop i) seg.length (by rw [List.length_drop]; omega)
  unfold spl
  rw [val_append, val_append, List.length_take, Nat.min_eq_left (by omega), e1, e2, List.drop_drop]
  grind
theorem spl_drop_take {zs : List Int} {i m : Nat} : (zs.drop i).take m = (zs.drop i).take m := rfl
/-- a part of a row and what lies apart from it -/
def Apart (bz oz n bx ox m : Nat) : Prop := bx ≠ bz ∨ ox + m ≤ oz ∨ oz + n ≤ ox
/-- what lies apart from what was written reads as before -/
theorem Src.keep {k : IntKind} {T : TypeId} {w w' : World} {b : Nat} {L : List Int} {o : Nat} {cs : List Int} {bx ox : Nat} {xs : List Int} (hs : Src k w bx ox xs) (hr : Row k T w b L)
    (hr' : Row k T w' b (Big.spl L o cs)) (hf : Fr [b] w w') (hfit : o + cs.length ≤ L.length) (ha : Apart b o cs.length bx ox xs.length) : Src k w' bx ox xs := fun j hj =>
  hs.spl hr hr' hf hfit hj (by rcases ha with h | h | h; exact .inl h; exact .inr (.inl (by omega)); exact .inr (.inr (by omega)))
theorem Src.drew_ {k : IntKind} {w : World} {b off : Nat} {xs : List Int} (h : Src k w b off xs) : Src k w.drew b off xs := h
theorem Row.part {k : IntKind} {T : TypeId} {w : World} {b o i n : Nat} {L zs : List Int} (h : Row k T w b (spl L o zs)) (hL : o + zs.length ≤ L.length) (hi : i + n ≤ zs.length) : Src k w b (o + i) ((zs.drop i).take n) := by
  intro j hj
  rw [List.length_take, List.length_drop] at hj
  rw [h.cell (by rw [spl_len hL]; omega)]
  rw [Nat.add_assoc, spl_get_in (by omega) (by omega)]
  congr 2
  simp only [List.getD_eq_getElem?_getD]
  rw [List.getElem?_take, if_pos (by omega), List.getElem?_drop]
end Go.Big
namespace Go.Proofs.YtbepihdlaidikaaDoor
open Go.Big Go.RowKit
end Go.Proofs.YtbepihdlaidikaaDoor
