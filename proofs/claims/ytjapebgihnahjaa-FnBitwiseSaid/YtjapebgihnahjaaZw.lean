/-
  Words taken together place by place: plain lists. No program in sight.
-/
import Derived.Test.YtjapebgihnahjaaNum
import Derived.Laws.BitsAllLaws
set_option linter.unusedSimpArgs false
set_option linter.unusedVariables false
namespace Go.Big
/-- the first n places of two lists, taken together -/
def zw (f : Int → Int → Int) (n : Nat) (xs ys : List Int) : List Int := (List.range n).map fun i => f (xs.getD i 0) (ys.getD i 0)
theorem zw_len (f : Int → Int → Int) (n : Nat) (xs ys : List Int) : (zw f n xs ys).length = n := by simp [zw]
theorem zw_zero (f : Int → Int → Int) (xs ys : List Int) : zw f 0 xs ys = [] := rfl
theorem zw_succ (f : Int → Int → Int) (n : Nat) (xs ys : List Int) : zw f (n + 1) xs ys = zw f n xs ys ++ [f (xs.getD n 0) (ys.getD n 0)] := by
  simp [zw, List.range_succ]
theorem zw_dg {B : Int} {f : Int → Int → Int} {n : Nat} {xs ys : List Int} (hB : 0 < B) (hx : DG B xs) (hy : DG B ys) (hf : ∀ a b, 0 ≤ a → a < B → 0 ≤ b → b < B → 0 ≤ f a b ∧ f a b < B) : DG B (zw f n xs ys) := by
  intro d hd
  unfold zw at hd
  rw [List.mem_map] at hd
  obtain ⟨i, _, rfl⟩ := hd
  have h1 := hx.getD hB i
  have h2 := hy.getD hB i
  exact hf _ _ h1.1 h1.2 h2.1 h2.2
theorem zw_congr {f : Int → Int → Int} {n : Nat} {xs ys xs' ys' : List Int} (hx : ∀ i, xs.getD i 0 = xs'.getD i 0) (hy : ∀ i, ys.getD i 0 = ys'.getD i 0) : zw f n xs ys = zw f n xs' ys' := by
  unfold zw
  apply List.map_congr_left
  intro i _
  rw [hx, hy]
theorem val_zw_pad {B : Int} {f : Int → Int → Int} {m n : Nat} {xs ys : List Int} (h : m ≤ n) (hz : ∀ i, m ≤ i → i < n → f (xs.getD i 0) (ys.getD i 0) = 0) : val B (zw f n xs ys) = val B (zw f m xs ys) := by
  induction n with
  | zero => obtain rfl : m = 0 := by omega
            rfl
  | succ n ih =>
    by_cases e : m = n + 1
    · subst e; rfl
    · rw [zw_succ, val_snoc, hz n (by omega) (by omega), Int.mul_zero, Int.add_zero]
      exact ih (by omega) (fun i h1 h2 => hz i h1 (by omega))
/-- what stands at a place does not hang on noughts at the upper end -/
theorem getD_of_val {B : Int} {xs ys : List Int} (hB : 1 < B) (hx : DG B xs) (hy : DG B ys) (h : val B xs = val B ys) (i : Nat) : xs.getD i 0 = ys.getD i 0 := by
  induction xs generalizing ys i with
  | nil =>
    induction ys generalizing i with
    | nil => rfl
    | cons y ys ih =>
      rw [val_nil, val_cons] at h
      have h1 := hy.head
      have h2 := val_nonneg (by omega) hy.tail
      have h3 : 0 ≤ B * val B ys := Int.mul_nonneg (by omega) h2
      have hy0 : y = 0 := by omega
      have hv0 : val B ys = 0 := by
        have : B * val B ys = 0 := by omega
        rcases Int.mul_eq_zero.1 this with h | h <;> omega
      cases i with
      | zero => simp [hy0]
      | succ i =>
        have := ih hy.tail (by rw [val_nil, hv0]) i
        simpa using this
  | cons x xs ih =>
    cases ys with
    | nil =>
      rw [val_nil, val_cons] at h
      have h1 := hx.head
      have h2 := val_nonneg (by omega) hx.tail
      have h3 : 0 ≤ B * val B xs := Int.mul_nonneg (by omega) h2
      have hx0 : x = 0 := by omega
      have hv0 : val B xs = 0 := by
        have : B * val B xs = 0 := by omega
        rcases Int.mul_eq_zero.1 this with h | h <;> omega
      cases i with
      | zero => simp [hx0]
      | succ i =>
        have := ih hx.tail (DG.nil _) (by rw [val_nil, hv0]) i
        simpa using this
    | cons y ys =>
      rw [val_cons, val_cons] at h
      obtain ⟨rfl, h'⟩ := digit_unique hx.head hy.head h
      cases i with
      | zero => rfl
      | succ i =>
        have := ih hx.tail hy.tail h' i
        simpa using this
theorem u64_bit_bounds (a b : Int) (h0 : 0 ≤ a) (h1 : a < 18446744073709551616) (h2 : 0 ≤ b) (h3 : b < 18446744073709551616) :
    (0 ≤ bits .and .u64 a b ∧ bits .and .u64 a b < 18446744073709551616) ∧ (0 ≤ bits .or .u64 a b ∧ bits .or .u64 a b < 18446744073709551616) ∧ (0 ≤ bits .xor .u64 a b ∧ bits .xor .u64 a b < 18446744073709551616) ∧ (0 ≤ bits .andNot .u64 a b ∧ bits .andNot .u64 a b < 18446744073709551616) := by
  obtain ⟨m, rfl⟩ := Int.eq_ofNat_of_zero_le h0
  obtain ⟨n, rfl⟩ := Int.eq_ofNat_of_zero_le h2
  have hm : m < 2 ^ 64 := by omega
  have hn : n < 2 ^ 64 := by omega
  rw [u64_and_nat _ _ (by omega) (by omega), u64_or_nat _ _ (by omega) (by omega), u64_xor_nat _ _ (by omega) (by omega), u64_andNot_nat _ _ (by omega) (by omega)]
  have e1 := Nat.and_lt_two_pow m hn
  have e2 := Nat.or_lt_two_pow hm hn
  have e3 := Nat.xor_lt_two_pow hm hn
  have e4 : m &&& (18446744073709551615 - n) < 2 ^ 64 := Nat.and_lt_two_pow m (by omega)
  refine ⟨⟨by omega, by omega⟩, ⟨by omega, by omega⟩, ⟨by omega, by omega⟩, by omega, by omega⟩
theorem u64_bit_zero (a : Int) (h0 : 0 ≤ a) (h1 : a < 18446744073709551616) : bits .and .u64 a 0 = 0 ∧ bits .and .u64 0 a = 0 ∧ bits .or .u64 a 0 = a ∧ bits .or .u64 0 a = a ∧ bits .xor .u64 a 0 = a ∧ bits .xor .u64 0 a = a ∧ bits .andNot .u64 a 0 = a ∧ bits .andNot .u64 0 a = 0 := by
  obtain ⟨m, rfl⟩ := Int.eq_ofNat_of_zero_le h0
  have z : (0 : Int) = ((0 : Nat) : Int) := rfl
  rw [z, u64_and_nat _ _ (by omega) (by omega), u64_and_nat _ _ (by omega) (by omega), u64_or_nat _ _ (by omega) (by omega), u64_or_nat _ _ (by omega) (by omega), u64_xor_nat _ _ (by omega) (by omega), u64_xor_nat _ _ (by omega) (by omega), u64_andNot_nat _ _ (by omega) (by omega), u64_andNot_nat _ _ (by omega) (by omega)]
  have e : m &&& (18446744073709551615 - 0) = m := by
    rw [show 18446744073709551615 - 0 = 2 ^ 64 - 1 by rfl, Nat.and_two_pow_sub_one_eq_mod]
    exact Nat.mod_eq_of_lt (by omega)
  rw [e]
  simp
end Go.Big
