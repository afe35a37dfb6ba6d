/-
  nat.sticky, and the walk of the law FnSticky. Conditions: the words can be read.
-/
import Derived.Test.YtjapebgihnahjaaTruncL
set_option linter.unusedSimpArgs false
set_option linter.unusedVariables false
namespace Go.Proofs.Ytjapebgihnahjaa
open Go.Big Go.RowKit
/-- whether one of the k lowest bits is set: 1 or 0 -/
def stk (X : Int) (k : Nat) : Int := if X % 2 ^ k = 0 then 0 else 1
theorem stk_zero {X : Int} {k : Nat} (h : X % 2 ^ k = 0) : stk X k = 0 := by unfold stk; rw [if_pos h]
theorem stk_one {X : Int} {k : Nat} (h : X % 2 ^ k ≠ 0) : stk X k = 1 := by unfold stk; rw [if_neg h]
theorem val_nz {B : Int} (hB : 0 < B) {xs : List Int} (hd : DG B xs) {j : Nat} (h : xs.getD j 0 ≠ 0) : val B xs ≠ 0 := by
  induction xs generalizing j with
  | nil => simp at h
  | cons x xs ih =>
    have h1 := hd.head
    have h2 := val_nonneg hB hd.tail
    rw [val_cons]
    cases j with
    | zero =>
      simp at h
      have : 0 ≤ B * val B xs := Int.mul_nonneg (by omega) h2
      omega
    | succ j =>
      have h3 := ih hd.tail (j := j) (by simpa using h)
      have : 0 < B * val B xs := Int.mul_pos hB (by omega)
      omega
set_option maxRecDepth 100000 in
set_option maxHeartbeats 1000000 in
theorem sticky_any (v : Value) (X : Int) (n : Nat) (w : World) (h : SW w v X) (hX : X < BIG) (hn : n ≤ 1000000) : Calls Try.prog 93 #[v, .int .u64 (n : Int)] w fun e w' => e = .returned (.int .u64 (stk X n)) ∧ w = w' := by
  obtain ⟨xs, sl, dx, zx, rfl⟩ := h
  have hl := len_BIG64 dx zx hX
  obtain ⟨A, cap, rfl, hlc, hm, hs⟩ := sl
  unfold maxLen at hm
  obtain ⟨q, hq⟩ : ∃ q, q = n / 64 := ⟨_, rfl⟩
  obtain ⟨r, hr⟩ : ∃ r, r = n % 64 := ⟨_, rfl⟩
  have hkq : (n : Int) / 64 = (q : Int) := by omega
  have hkr : (n : Int) % 64 = (r : Int) := by omega
  have hr64 : r < 64 := by omega
  have hq9 : q ≤ 20000 := by omega
  have hn2 : n = 64 * q + r := by omega
  by_cases h0 : xs.length = 0
  · have hx : xs = [] := List.eq_nil_of_length_eq_zero h0
    subst hx
    rw [stk_zero (by rw [val_nil]; simp)]
    simp only [List.length_nil] at *
    clear h0 hs dx zx hX hn2 hq hr
    go_enter Try.func93, Try.ntmps93
    go_wp2_with fail
    go_ret
    exact ⟨rfl, rfl⟩
  have hne : ((xs.length : Int) == 0) = false := by rw [beq_eq_false_iff_ne]; omega
  by_cases h1 : xs.length ≤ q
  · have hv : val 18446744073709551616 xs % 2 ^ n = val 18446744073709551616 xs := by
      have h1 := val_nonneg (by omega) dx
      have h2 := val_lt (by omega) dx
      have e : (18446744073709551616 : Int) ^ xs.length = 2 ^ (64 * xs.length) := by rw [Int.pow_mul]; rfl
      have h3 := pow_le_pow_ (B := 2) (by omega) (show 64 * xs.length ≤ n by omega)
      exact Int.emod_eq_of_lt h1 (by omega)
    rw [stk_one (by rw [hv]; have := nz_pos (by omega) dx zx (by intro e; subst e; simp at h0); omega)]
    clear h0 hs dx zx hX hn2 hq hr hv
    go_enter Try.func93, Try.ntmps93
    go_wp2_with fail
    go_ret
    exact ⟨rfl, rfl⟩
  obtain ⟨b, off, rfl, hb, hsrc⟩ := hs (by omega)
  have hv : val 18446744073709551616 xs % 2 ^ n = val 18446744073709551616 (xs.take q ++ [xs.getD q 0 % 2 ^ r]) := by
    rcases mod_words' (B := 18446744073709551616) (s := 64) (q := q) (r := r) (by decide) dx (by omega) with h | h
    · rw [hn2]; exact h
    · omega
  obtain ⟨x, hx⟩ : ∃ x, x = xs.getD q 0 := ⟨_, rfl⟩
  rw [← hx] at hv
  have hxd := dx.getD (by omega) q
  rw [← hx] at hxd
  obtain ⟨hx0, hx1⟩ := hxd
  have hm0 := Int.emod_nonneg x (show (2 : Int) ^ r ≠ 0 by have := pow_pos_ (B := 2) (by omega) r; omega)
  have hm1 := Int.emod_lt_of_pos x (pow_pos_ (B := 2) (by omega) r)
  have hmp := pow_le_pow_ (B := 2) (by omega) (show r ≤ 63 by omega)
  have hdt : DG 18446744073709551616 (xs.take q ++ [x % 2 ^ r]) := (dx.take q).append (DG.cons hm0 (by omega) (DG.nil _))
  -- the shift of the last word
  have hsh : IntKind.u64.wrap (x * 2 ^ (64 - r)) = 0 ↔ x % 2 ^ r = 0 := by
    rw [IntKind.wrap_u64]
    have e : (18446744073709551616 : Int) = 2 ^ r * 2 ^ (64 - r) := by rw [← Int.pow_add, show r + (64 - r) = 64 by omega]; rfl
    have hp := pow_pos_ (B := 2) (by omega) (64 - r)
    rw [e, Int.mul_comm x, Int.mul_comm (2 ^ r), Int.mul_emod_mul_of_pos _ _ hp, Int.mul_comm]
    constructor
    · intro h
      rcases Int.mul_eq_zero.1 h with h | h
      · exact h
      · omega
    · intro h; rw [h, Int.zero_mul]
  have HSH := Lib.hid hsh
  have HV := Lib.hid hv
  have HDT := Lib.hid hdt
  have HDX := Lib.hid dx
  have cX := hsrc q (by omega)
  rw [← hx] at cX
  have hm64 : min (64 - r) 64 = 64 - r := by omega
  have HS := Lib.hid hsrc
  have hsub : (64 : Int) - (r : Int) = ((64 - r : Nat) : Int) := by omega
  clear hx hv hdt hsh hs dx zx hX hn2 hq hr hsrc hm0 hm1 hmp
  go_enter Try.func93, Try.ntmps93
  go_wp2_with fail
  go_loopg [22] (q + 1) (fun g iv wr => ∃ i : Nat, i ≤ q ∧ g = q - i + 1 ∧ iv = .int .i64 i ∧ (∀ j, j < i → xs.getD j 0 = 0) ∧ w = wr)
  case atStart => exact ⟨0, by omega, by omega, rfl, fun j hj => by omega, rfl⟩
  case round =>
    obtain ⟨i, hi, rfl, rfl, hz, rfl⟩ := hrel
    have HZ := Lib.hid hz
    clear hz
    by_cases h2 : i < q
    · have cI := HS.out i (by omega)
      obtain ⟨y, hy⟩ : ∃ y, y = xs.getD i 0 := ⟨_, rfl⟩
      rw [← hy] at cI
      have HY := Lib.hid hy
      clear hy
      by_cases h3 : y = 0
      · subst h3
        go_wp2_with fail
        go_roundg (q - (i + 1) + 1)
        case measure => omega
        case rel =>
          refine ⟨i + 1, by omega, rfl, by go_num, fun j hj => ?_, rfl⟩
          by_cases e : j = i
          · subst e; exact HY.out.symm
          · exact HZ.out j (by omega)
      · go_wp2_with fail
        go_ret
        have hone : stk (val 18446744073709551616 xs) n = 1 := by
         refine stk_one ?_
         rw [HV.out]
         refine val_nz (by omega) HDT.out (j := i) ?_
         have e : (xs.take q ++ [x % 2 ^ r]).getD i 0 = xs.getD i 0 := by
           simp only [List.getD_eq_getElem?_getD]
           rw [List.getElem?_append_left (by rw [List.length_take]; omega), List.getElem?_take, if_pos h2]
         rw [e, ← HY.out]; exact h3
        exact ⟨by rw [hone]; rfl, rfl⟩
    · obtain rfl : i = q := by omega
      have hval : val 18446744073709551616 (xs.take i ++ [x % 2 ^ r]) = 0 ↔ x % 2 ^ r = 0 := by
        have hz : val 18446744073709551616 (xs.take i) = 0 := val_zeros _ (fun y hy => by
          obtain ⟨j, hj, rfl⟩ := List.mem_iff_getElem.1 hy
          rw [List.length_take] at hj
          have := HZ.out j (by omega)
          rw [getD_in (by omega)] at this
          simpa using this)
        rw [val_snoc, hz, List.length_take, Nat.min_eq_left (by omega), Int.zero_add]
        constructor
        · intro h
          rcases Int.mul_eq_zero.1 h with h | h
          · have := pow_pos_ (B := 18446744073709551616) (by omega) i; omega
          · exact h
        · intro h; rw [h, Int.mul_zero]
      obtain ⟨y, hy⟩ : ∃ y, y = IntKind.u64.wrap (x * 2 ^ (64 - r)) := ⟨_, rfl⟩
      have HY := Lib.hid hy
      have hyw : IntKind.u64.wrap (x * 2 ^ (64 - r)) = y := hy.symm
      have HVAL := Lib.hid hval
      clear hy hval
      by_cases h3 : y = 0
      · subst h3
        have hone : stk (val 18446744073709551616 xs) n = 0 := stk_zero (by rw [HV.out, HVAL.out, ← HSH.out]; exact HY.out.symm)
        go_wp2_with fail
        go_ret
        exact ⟨by rw [hone]; rfl, rfl⟩
      · have hone : stk (val 18446744073709551616 xs) n = 1 := stk_one (by rw [HV.out]; intro h; rw [HVAL.out, ← HSH.out, ← HY.out] at h; exact h3 h)
        go_wp2_with fail
        go_ret
        exact ⟨by rw [hone]; rfl, rfl⟩
set_option maxRecDepth 100000 in
theorem implSticky_any (v : Value) (xs : List Int) (n : Nat) (w : World) (hx : Sl .u64 w v xs) (hd : DG 18446744073709551616 xs) (hl : xs.length ≤ 1000000) (hn : n ≤ 1000000) :
    Calls Try.prog 24 #[v, .int .u64 (n : Int)] w fun e w' => e = .returned (.int .u64 (stk (val 18446744073709551616 xs) n)) ∧ Fr [] w w' := by
  have HX := Lib.hid hx
  have HD := Lib.hid hd
  have HB := Lib.hid (words_BIG hd hl)
  obtain ⟨X, hX⟩ : ∃ X, val 18446744073709551616 xs = X := ⟨_, rfl⟩
  have HV := Lib.hid hX
  rw [hX] at HB ⊢
  clear hx hd hX
  go_enter Try.func24, Try.ntmps24
  go_wp2_with (first
    | (go_at_call 67; refine (normed_any _ xs _ HX.out HD.out hl).mono ?_; rintro e w1 ⟨v1, ys, rfl, sl1, dy, nzy, hvy, hly, f1⟩; have HVY := Lib.hid hvy; clear hvy)
    | (go_at_call 92; refine (zzIn_any _ ys _ sl1 (by omega)).mono ?_; rintro e w2 ⟨b2, rfl, row2, hb2, f2⟩)
    | (go_at_call 93; have sw2 := SW.mk row2 dy nzy (by omega); rw [HVY.out, HV.out] at sw2; refine (sticky_any _ X n _ sw2 HB.out hn).mono ?_; rintro e w3 ⟨rfl, rfl⟩)
    | (go_at_call 66; go_in))
  go_ret
  exact ⟨rfl, f1.t f2⟩
set_option maxRecDepth 100000 in
set_option maxHeartbeats 2000000 in
theorem law_FnSticky (v : Value) (xs : List Int) (i : Int) (w : World) (hx : Sl .u64 w v xs) (hd : DG 18446744073709551616 xs) (i0 : 0 ≤ i) (i1 : i < 65536) :
    Calls Try.prog 3 #[v, .int .u16 i] w fun e w' => e = .returned (.bool true) ∧ Fr [] w w' := by
  obtain ⟨k, hk⟩ : ∃ k : Nat, (k : Int) = i := ⟨i.toNat, by omega⟩
  have hk2 : k < 65536 := by omega
  have HK := Lib.hid hk
  clear hk
  have HX := Lib.hid hx
  have HD := Lib.hid hd
  obtain ⟨A, cap, rfl, hlc, hm, hs⟩ := hx
  unfold maxLen at hm
  clear hs hd
  by_cases h1 : 2147483647 < xs.length
  · go_enter Try.func3, Try.ntmps3
    go_wp2_with fail
    go_ret
    exact ⟨rfl, Fr.refl _ _⟩
  by_cases h2 : xs.length ≤ 260
  case neg =>
    go_enter Try.func3, Try.ntmps3
    go_wp2_with (go_at_call 20; refine (few1_no 260 A _ _ _ _ (by omega) (by omega) (by omega)).mono ?_; rintro e w1 ⟨rfl, rfl⟩)
    go_ret
    exact ⟨rfl, (Fr.refl _ _).alloc _⟩
  have f0 : Fr [] w (w.alloc (.cells #[.slice A xs.length cap] 22)) := (Fr.refl _ _).alloc _
  have C1 := Lib.hid (fun W (f : Fr [] w W) => implSticky_any _ xs k W (HX.out.fr0 f) HD.out (by omega) (by omega))
  have C2 := Lib.hid (fun W => sbit_any k W (by omega))
  have HM := Lib.hid (words_MID HD.out (show xs.length ≤ 15000 by omega))
  have HP := Lib.hid (pow2_MID (show k < 960000 by omega))
  have hp0 := pow_pos_ (B := 2) (by omega) k
  have h0 := val_nonneg (by omega) HD.out
  obtain ⟨X, hX⟩ : ∃ X, val 18446744073709551616 xs = X := ⟨_, rfl⟩
  have HV := Lib.hid hX
  rw [hX] at C1 HM h0
  have hst : (X % 2 ^ k = 0 ∧ stk X k = 0) ∨ (X % 2 ^ k ≠ 0 ∧ stk X k = 1) := by
    by_cases h : X % 2 ^ k = 0
    · exact .inl ⟨h, stk_zero h⟩
    · exact .inr ⟨h, stk_one h⟩
  obtain ⟨P, hP⟩ : ∃ P : Int, 2 ^ k = P := ⟨_, rfl⟩
  rw [hP] at C2 HP hp0 hst
  rw [HK.out] at C1 C2
  have hR := emod_le_ h0 hp0
  obtain ⟨R, hR'⟩ : ∃ R, X % P = R := ⟨_, rfl⟩
  have HE := Lib.hid hR'
  rw [hR'] at hR hst
  have HR := Lib.hid (show R < BIG by have := MID_BIG HM.out; omega)
  obtain ⟨hR0, hR1⟩ := hR
  obtain ⟨t, ht⟩ : ∃ t, stk X k = t := ⟨_, rfl⟩
  rw [ht] at C1 hst
  have ONE := Lib.hid (fun W => implSticky_any _ [1] 1 (W.alloc (.cells #[.int .u64 1] 31)) (row1 W _ _ _) (DG.cons (by omega) (by omega) (DG.nil _)) (by simp) (by omega))
  rw [show stk (val 18446744073709551616 [1]) 1 = 1 by decide] at ONE
  clear hX hP hR' ht
  go_enter Try.func3, Try.ntmps3
  rcases hst with ⟨hR0, rfl⟩ | ⟨hR0, rfl⟩
  · have HR0 := Lib.hid hR0
    clear hR0
    go_wp2_with (first
      | (go_at_call 20; refine (few1_yes 260 A _ _ _ _ (by omega) h2).mono ?_; rintro e w1 ⟨rfl, rfl⟩)
      | (go_at_call 22; refine (of_any _ xs _ (HX.out.fr0 f0) HD.out (by omega)).mono ?_; rw [HV.out]; rintro e w2 ⟨v2, rfl, sn2, f2⟩)
      | (go_at_call 23; refine (C2.out _).mono ?_; rintro e w3 ⟨v3, rfl, sn3, f3⟩)
      | (go_at_call 21; refine (divmod_any _ _ X P _ (sn2.fr0 f3) sn3 HM.out HP.out hp0).mono ?_; rw [HE.out]; rintro e w4 ⟨v4, v5, rfl, sn4, sn5, f4⟩)
      | (go_at_call 24; refine (C1.out _ (((f0.t f2).t f3).t f4)).mono ?_; clear C1; rintro e w5 ⟨rfl, f5⟩)
      | (go_at_call 25; refine (bits_any _ R _ (sn5.fr0 f5) HR.out).mono ?_; rintro e w6 ⟨L, rfl, hL, hL9, rfl⟩; obtain rfl : L = 0 := hL.unique (.inl ⟨HR0.out, rfl⟩))
      | (go_at_call 24; refine (ONE.out _).mono ?_; rintro e w7 ⟨rfl, f7⟩))
    go_ret
    exact ⟨rfl, ((((f0.t f2).t f3).t f4).t f5).t (Fr.trans ((Fr.refl _ _).alloc _) f7 (by simp))⟩
  · go_wp2_with (first
      | (go_at_call 20; refine (few1_yes 260 A _ _ _ _ (by omega) h2).mono ?_; rintro e w1 ⟨rfl, rfl⟩)
      | (go_at_call 22; refine (of_any _ xs _ (HX.out.fr0 f0) HD.out (by omega)).mono ?_; rw [HV.out]; rintro e w2 ⟨v2, rfl, sn2, f2⟩)
      | (go_at_call 23; refine (C2.out _).mono ?_; rintro e w3 ⟨v3, rfl, sn3, f3⟩)
      | (go_at_call 21; refine (divmod_any _ _ X P _ (sn2.fr0 f3) sn3 HM.out HP.out hp0).mono ?_; rw [HE.out]; rintro e w4 ⟨v4, v5, rfl, sn4, sn5, f4⟩)
      | (go_at_call 24; refine (C1.out _ (((f0.t f2).t f3).t f4)).mono ?_; clear C1; rintro e w5 ⟨rfl, f5⟩)
      | (go_at_call 25; refine (bits_any _ R _ (sn5.fr0 f5) HR.out).mono ?_; rintro e w6 ⟨L, rfl, hL, hL9, rfl⟩; have hLp : (0 : Int) < (L : Int) := by (rcases hL with ⟨h, _⟩ | ⟨h, _⟩; exact absurd h hR0; omega))
      | (go_at_call 24; refine (ONE.out _).mono ?_; rintro e w7 ⟨rfl, f7⟩))
    go_ret
    exact ⟨rfl, ((((f0.t f2).t f3).t f4).t f5).t (Fr.trans ((Fr.refl _ _).alloc _) f7 (by simp))⟩
end Go.Proofs.Ytjapebgihnahjaa
