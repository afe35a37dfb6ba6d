/-
  Figures of a number to a base, plain. Conditions: the base is 2 at least.
-/
import Derived.Test.YtbepihdlaidikaaDoorgBase
set_option linter.unusedSimpArgs false
set_option linter.unusedVariables false
namespace Go.Big
/-- what a byte counts as a figure to the base b; 63 where it is none -/
def digC (b c : Int) : Int := if 48 ≤ c ∧ c ≤ 57 then c - 48 else if 97 ≤ c ∧ c ≤ 122 then c - 87 else if 65 ≤ c ∧ c ≤ 90 then (if b ≤ 36 then c - 55 else c - 29) else 63
theorem digC_bd (b c : Int) : 0 ≤ digC b c ∧ digC b c ≤ 63 := by
  unfold digC
  split
  · omega
  · split
    · omega
    · split
      · split <;> omega
      · omega
/-- the number of figures -/
def figs (b : Int) (cs : List Int) : Int := cs.foldl (fun a c => a * b + digC b c) 0
theorem figs_nil (b : Int) : figs b [] = 0 := rfl
theorem figs_snoc (b c : Int) (cs : List Int) : figs b (cs ++ [c]) = figs b cs * b + digC b c := by
  unfold figs; rw [List.foldl_append]; rfl
theorem figs_take {b : Int} {cs : List Int} {p : Nat} (h : p < cs.length) : figs b (cs.take (p + 1)) = figs b (cs.take p) * b + digC b (cs.getD p 0) := by
  rw [← figs_snoc, getD_in h, ← List.take_succ_eq_append_getElem h]
/-- all are figures to the base -/
def DigsOk (b : Int) (cs : List Int) : Prop := ∀ j, j < cs.length → digC b (cs.getD j 0) < b
theorem figs_bd {b : Int} (hb : 2 ≤ b) {cs : List Int} : ∀ p, p ≤ cs.length → (∀ j, j < p → digC b (cs.getD j 0) < b) → 0 ≤ figs b (cs.take p) ∧ figs b (cs.take p) < b ^ p := by
  intro p
  induction p with
  | zero => intro _ _; rw [List.take_zero, figs_nil, Int.pow_zero]; omega
  | succ p ih =>
    intro hp h
    obtain ⟨h0, h1⟩ := ih (by omega) (fun j hj => h j (by omega))
    have h2 := h p (by omega)
    have h3 := (digC_bd b (cs.getD p 0)).1
    rw [figs_take (by omega), Int.pow_succ]
    have k1 : (figs b (cs.take p) + 1) * b ≤ b ^ p * b := Int.mul_le_mul_of_nonneg_right (by omega) (by omega)
    have k2 : 0 ≤ figs b (cs.take p) * b := Int.mul_nonneg h0 (by omega)
    have k3 : (figs b (cs.take p) + 1) * b = figs b (cs.take p) * b + b := by grind
    omega
/-- one figure more, collected -/
theorem scan_step {Z b P di d F F' : Int} (h : Z * P + di = F) (hF : F' = F * b + d) : Z * (P * b) + (di * b + d) = F' := by
  subst h; rw [hF]; grind
theorem scan_di {b di d : Int} {i : Nat} (hb : 2 ≤ b) (h0 : 0 ≤ di) (h1 : di < b ^ i) (d0 : 0 ≤ d) (d1 : d < b) : 0 ≤ di * b + d ∧ di * b + d < b ^ (i + 1) := by
  have k1 : (di + 1) * b ≤ b ^ i * b := Int.mul_le_mul_of_nonneg_right (by omega) (by omega)
  have k2 : 0 ≤ di * b := Int.mul_nonneg h0 (by omega)
  have k3 : (di + 1) * b = di * b + b := by grind
  rw [Int.pow_succ]
  omega
/-- words with the highest first -/
def bigE (zs : List Int) : Int := val 18446744073709551616 zs.reverse
theorem bigE_nil : bigE [] = 0 := rfl
theorem bigE_snoc (zs : List Int) (x : Int) : bigE (zs ++ [x]) = bigE zs * 18446744073709551616 + x := by
  unfold bigE
  rw [List.reverse_append, List.reverse_cons, List.reverse_nil, List.nil_append, List.singleton_append, val_cons]
  grind
theorem dg_reverse {zs : List Int} (h : DG 18446744073709551616 zs) : DG 18446744073709551616 zs.reverse := fun d hd => h d (List.mem_reverse.1 hd)
/-- the last digits moved up and down again -/
theorem scan_pack {Z b di W : Int} {i n k : Nat} (hW : b ^ n = 18446744073709551616) (hk : b = 2 ^ k) (hi : i ≤ n) : (Z * 18446744073709551616 + di * b ^ (n - i)) / 2 ^ ((n - i) * k) = Z * b ^ i + di := by
  have e1 : b ^ (n - i) = 2 ^ ((n - i) * k) := by rw [hk, ← Int.pow_mul, Nat.mul_comm]
  have e2 : (18446744073709551616 : Int) = b ^ i * b ^ (n - i) := by rw [← hW, ← Int.pow_add]; congr 1; omega
  have hp := pow_pos_ (B := 2) (by omega) ((n - i) * k)
  rw [e2, e1]
  have e3 : Z * (b ^ i * 2 ^ ((n - i) * k)) + di * 2 ^ ((n - i) * k) = (Z * b ^ i + di) * 2 ^ ((n - i) * k) := by grind
  rw [e3, Int.mul_ediv_cancel _ (by omega)]
end Go.Big
