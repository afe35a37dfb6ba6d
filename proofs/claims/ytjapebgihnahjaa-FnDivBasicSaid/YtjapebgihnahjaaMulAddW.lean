/-
  setWord, mulAddWW, and the walk of the law FnMulAddWW. Conditions: what is read can be read.
-/
import Derived.Test.YtjapebgihnahjaaMake
import Derived.Test.YtjapebgihnahjaaSpecB
import Derived.Test.YtjapebgihnahjaaSpecC
import Derived.Test.YtjapebgihnahjaaFew
set_option linter.unusedSimpArgs false
set_option linter.unusedVariables false
namespace Go.Proofs.Ytjapebgihnahjaa
open Go.Big Go.RowKit
theorem fr_new'' {w w1 w2 : World} {b : Nat} (h : Fr [] w w1) (h' : Fr [b] w1 w2) (hb : w.heap.size ≤ b) : Fr [] w w2 :=
  h.trans h' (fun x hx hlt => by simp at hx; omega)
theorem SW.zero (w : World) : SW w (.slice none 0 0) 0 := ⟨[], Sl.nil _ _, DG.nil _, NZ.nil, rfl⟩
theorem src_spl {w : World} {T : TypeId} {b : Nat} {L cs : List Int} (h : Row .u64 T w b (spl L 0 cs)) (hl : cs.length ≤ L.length) : Src .u64 w b 0 cs := by
  have e := (h.src (off := 0) (Nat.zero_le _)).take cs.length
  rw [List.drop_zero] at e
  have e2 : (spl L 0 cs).take cs.length = cs := by unfold spl; simp
  rwa [e2] at e
/-- what a nat gives, copied out -/
theorem zzOutW_any (v : Value) (n : Int) (w : World) (h : SW w v n) (hb : n < BIG) : Calls Try.prog 97 #[v] w (RetW n w) := by
  obtain ⟨ys, h1, h2, h3, rfl⟩ := h
  refine (zzOut_any v ys w h1 (by have := len_BIG64 h2 h3 hb; omega)).mono ?_
  rintro e w' ⟨v', rfl, sl, f⟩
  exact ⟨v', rfl, ⟨ys, sl, h2, h3, rfl⟩, f⟩
theorem mulw_BIG {xs : List Int} {y r : Int} (hd : DG 18446744073709551616 xs) (hl : xs.length ≤ 100000) (hy0 : 0 ≤ y) (hy1 : y < 18446744073709551616) (hr0 : 0 ≤ r) (hr1 : r < 18446744073709551616) : val 18446744073709551616 xs * y + r < BIG ∧ val 18446744073709551616 xs * y < BIG := by
  have h0 := val_nonneg (by omega) hd
  have h1 := val_lt (by omega) hd
  have hp := pow_pos_ (B := 18446744073709551616) (by omega) xs.length
  have e1 : val 18446744073709551616 xs * y ≤ (18446744073709551616 ^ xs.length - 1) * 18446744073709551615 :=
    Int.le_trans (Int.mul_le_mul_of_nonneg_left (show y ≤ 18446744073709551615 by omega) h0) (Int.mul_le_mul_of_nonneg_right (show val 18446744073709551616 xs ≤ 18446744073709551616 ^ xs.length - 1 by omega) (by omega))
  have e2 : val 18446744073709551616 xs * y + r < 18446744073709551616 ^ (xs.length + 1) := by rw [Int.pow_succ]; omega
  exact ⟨lt_BIG64 _ e2 (by omega), lt_BIG64 _ (by omega) (show xs.length + 1 ≤ 1000000 by omega)⟩
end Go.Proofs.Ytjapebgihnahjaa
