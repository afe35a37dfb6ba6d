/-
  nat.setBit at a nil receiver, and the walk of the law FnSetBit. Conditions: the words can be read.
-/
import Derived.Test.YtjapebgihnahjaaTruncL
set_option linter.unusedSimpArgs false
set_option linter.unusedVariables false
namespace Go.Big
theorem spl_pad {c k : Nat} {xs : List Int} (h : xs.length + k ≤ c) : spl (List.replicate c 0) 0 xs = spl (List.replicate c 0) 0 (xs ++ List.replicate k 0) := by
  unfold spl
  simp only [List.take_zero, List.nil_append, Nat.zero_add, List.drop_replicate, List.length_append, List.length_replicate, List.append_assoc]
  rw [List.replicate_append_replicate]
  congr 2
  omega
theorem pad_set {xs : List Int} {j : Nat} {P : Int} (h : xs.length ≤ j) : (xs ++ List.replicate (j + 1 - xs.length) 0).set j P = xs ++ List.replicate (j - xs.length) 0 ++ [P] := by
  rw [List.set_append_right _ _ h, show j + 1 - xs.length = (j - xs.length) + 1 by omega, List.replicate_succ', List.set_append_right _ _ (by simp), List.length_replicate, Nat.sub_self, List.append_assoc]
  rfl
theorem spl_same {c o k : Nat} (h : o + k ≤ c) : spl (List.replicate c (0 : Int)) o (List.replicate k 0) = List.replicate c 0 := by
  unfold spl
  simp only [List.take_replicate, List.drop_replicate, List.length_replicate]
  rw [List.replicate_append_replicate, List.replicate_append_replicate]
  congr 1
  omega
theorem NZ.set {xs : List Int} {j : Nat} {t : Int} (h : NZ xs) (hj : j < xs.length) (ht : t ≠ 0) : NZ (xs.set j t) := by
  right
  rw [List.length_set]
  by_cases e : xs.length - 1 = j
  · rw [e, getD_set_self _ hj]; exact ht
  · rw [getD_set _ (by omega)]
    rcases h with h | h
    · subst h; simp at hj
    · exact h
theorem NZ.snoc {xs : List Int} {P : Int} (h : P ≠ 0) : NZ (xs ++ [P]) := by
  right
  simp [List.getD_eq_getElem?_getD, h]
end Go.Big
namespace Go.Proofs.Ytjapebgihnahjaa
open Go.Big Go.RowKit
theorem val_setbit {xs : List Int} {j r n : Nat} {t' c : Int} (hn : n = 64 * j + r) (hj : j < xs.length) (ht : t' = xs.getD j 0 + 2 ^ r * c) : val 18446744073709551616 (xs.set j t') = val 18446744073709551616 xs + 2 ^ n * c := by
  rw [val_set' _ _ _ hj, ht, hn, Int.pow_add, Int.pow_mul]
  have : (2 : Int) ^ 64 = 18446744073709551616 := by decide
  rw [this]
  grind
set_option maxRecDepth 100000 in
set_option maxHeartbeats 1000000 in
theorem setBit0_any (v : Value) (X : Int) (n : Nat) (w : World) (h : SW w v X) (hX : X < BIG) (hn : n ≤ 1000000) : Calls Try.prog 100 #[.slice none 0 0, v, .int .u64 (n : Int), .int .u64 0] w (RetW (X - 2 ^ n * (X / 2 ^ n % 2)) w) := by
  have H := Lib.hid h
  obtain ⟨xs, sl, dx, zx, rfl⟩ := h
  have hl := len_BIG64 dx zx hX
  have SL := Lib.hid sl
  obtain ⟨A, cap, rfl, hlc, hm, hs⟩ := sl
  unfold maxLen at hm
  have DX := Lib.hid dx
  have ZX := Lib.hid zx
  obtain ⟨q, hq⟩ : ∃ q, q = n / 64 := ⟨_, rfl⟩
  obtain ⟨r, hr⟩ : ∃ r, r = n % 64 := ⟨_, rfl⟩
  have hkq : (n : Int) / 64 = (q : Int) := by omega
  have hkr : (n : Int) % 64 = (r : Int) := by omega
  have hr64 : r < 64 := by omega
  have hq9 : q ≤ 20000 := by omega
  have hn2 : n = 64 * q + r := by omega
  obtain ⟨P, hP⟩ : ∃ P : Int, P = 2 ^ r := ⟨_, rfl⟩
  have hP0 : 1 ≤ P ∧ P ≤ 9223372036854775808 := by
    have := pow_pos_ (B := 2) (by omega) r
    have := pow_le_pow_ (B := 2) (by omega) (show r ≤ 63 by omega)
    rw [hP]; omega
  obtain ⟨hP0, hP1⟩ := hP0
  have hpow : (2 : Int) ^ r = P := hP.symm
  have hmin : min r 64 = r := by omega
  have hw1 : IntKind.u64.wrap (1 * P) = P := by rw [IntKind.wrap_u64]; omega
  have hw2 : IntKind.u64.wrap P = P := by rw [IntKind.wrap_u64]; omega
  have hb := bit_of (B := 18446744073709551616) (s := 64) (j := q) (r := r) (by decide) dx hr64
  rw [← hn2] at hb
  by_cases h0 : xs.length = 0
  · have hx : xs = [] := List.eq_nil_of_length_eq_zero h0
    subst hx
    simp only [List.length_nil] at *
    have hz : (val 18446744073709551616 [] - 2 ^ n * (val 18446744073709551616 [] / 2 ^ n % 2)) = 0 := by simp [val_nil]
    rw [hz]
    clear h0 hs dx zx hX hz hb hq hr hn2 hP
    go_enter Try.func100, Try.ntmps100
    go_wp2_with (first
      | (go_at_call 120; refine (make0 _).mono ?_; rintro e w1 ⟨rfl, rfl⟩)
      | (refine wpList_copy_nothing rfl (.tmp 26) (.tmp 27) _ _ rfl 87 Try.underlying79 size_wordS none A 0 0 0 cap rfl rfl rfl ?_))
    go_ret
    exact ⟨_, rfl, SW.zero _, Fr.refl _ _⟩
  have HM := Lib.hid (fun W => make_any xs.length W (by omega) (by omega))
  by_cases h1 : xs.length ≤ q
  · rw [hb, getD_out h1, Int.zero_ediv]
    rw [show (0 : Int) % 2 = 0 from rfl, Int.mul_zero, Int.sub_zero]
    clear hs dx zx hX hb hq hr hn2 hP
    go_enter Try.func100, Try.ntmps100
    go_wp2_with (first
      | (go_at_call 120; refine (HM.out _).mono ?_; rintro e w1 ⟨b, c, rfl, hc1, hc2, row, hb, f⟩; have HROW := Lib.hid row; clear row)
      | (refine wp_copy rfl (.tmp 26) (.tmp 27) _ _ rfl .u64 87 Try.underlying79 size_wordS b 0 xs.length c rfl _ xs rfl (SL.out.fr0 f) (List.replicate c 0) HROW.out (by simp; omega) ?_; intro w2 row2 f2; have HR2 := Lib.hid row2; clear row2))
    go_ret
    have row2 := HR2.out
    rw [List.take_length] at row2
    exact ⟨_, rfl, ⟨xs, (src_spl row2 (by simp; omega)).sl rfl hc1 (by unfold maxLen; omega), DX.out, ZX.out, rfl⟩, fr_new'' f f2 hb⟩
  · obtain ⟨x, hx⟩ : ∃ x, x = xs.getD q 0 := ⟨_, rfl⟩
    rw [← hx] at hb
    have hxd := dx.getD (by omega) q
    rw [← hx] at hxd
    obtain ⟨hx0, hx1⟩ := hxd
    have hop := u64_andNot_bit x r hx0 hx1 hr64
    rw [hpow] at hop
    obtain ⟨d, hd⟩ : ∃ d, d = x / P % 2 := ⟨_, rfl⟩
    have hd2 : 0 ≤ d ∧ d ≤ 1 := by omega
    obtain ⟨t, ht⟩ : ∃ t, t = x - P * d := ⟨_, rfl⟩
    rw [← hd, ← ht] at hop
    have ht2 : 0 ≤ t ∧ t < 18446744073709551616 := by
      have e := Int.emod_add_mul_ediv x P
      have e2 := Int.emod_nonneg x (show P ≠ 0 by omega)
      have e3 : P * d ≤ P * (x / P) := Int.mul_le_mul_of_nonneg_left (by have := Int.ediv_nonneg hx0 (show 0 ≤ P by omega); omega) (by omega)
      have e4 : 0 ≤ P * d := Int.mul_nonneg (by omega) hd2.1
      omega
    have hv : val 18446744073709551616 (xs.set q t) = val 18446744073709551616 xs - 2 ^ n * (val 18446744073709551616 xs / 2 ^ n % 2) := by
      rw [val_setbit (c := -d) hn2 (by omega) (by rw [← hx, hpow, ht]; grind), hb, hpow, ← hd, Int.mul_neg]; omega
    rw [← hv]
    have HDT := Lib.hid (dx.set q ht2.1 ht2.2)
    have HX := Lib.hid hx
    clear hs dx zx hX hb hq hr hn2 hP hx hd hd2 ht ht2 hv
    go_enter Try.func100, Try.ntmps100
    go_wp2_with (first
      | (go_at_call 120; refine (HM.out _).mono ?_; rintro e w1 ⟨b, c, rfl, hc1, hc2, row, hb, f⟩; have HROW := Lib.hid row; clear row)
      | (refine wp_copy rfl (.tmp 26) (.tmp 27) _ _ rfl .u64 87 Try.underlying79 size_wordS b 0 xs.length c rfl _ xs rfl (SL.out.fr0 f) (List.replicate c 0) HROW.out (by simp; omega) ?_; intro w2 row2 f2; rw [List.take_length] at row2; have hfz := row2.frozen q; have cz := row2.cell (i := q) (by rw [spl_len (by simp; omega)]; simp; omega); rw [spl0_get (by omega), ← HX.out] at cz; have HR2 := Lib.hid row2; clear row2)
      | (go_at_call 118; have row3 := HR2.out.set q t; rw [spl0_set (by omega)] at row3; refine (bnorm_sl _ (xs.set q t) _ ((src_spl row3 (by simp; omega)).sl (by simp) hc1 (by unfold maxLen; omega)) HDT.out).mono ?_; rintro e w3 ⟨⟨v3, rfl, sw3⟩, rfl⟩))
    go_ret
    exact ⟨_, rfl, sw3, fr_new'' f (fr_same' f2 (by apply Fr.set _ (.inl (by simp)); exact Fr.refl _ _)) hb⟩
set_option maxRecDepth 100000 in
set_option maxHeartbeats 1000000 in
theorem setBit1_any (v : Value) (X : Int) (n : Nat) (w : World) (h : SW w v X) (hX : X < BIG) (hn : n ≤ 1000000) : Calls Try.prog 100 #[.slice none 0 0, v, .int .u64 (n : Int), .int .u64 1] w (RetW (X - 2 ^ n * (X / 2 ^ n % 2) + 2 ^ n) w) := by
  have H := Lib.hid h
  obtain ⟨xs, sl, dx, zx, rfl⟩ := h
  have hl := len_BIG64 dx zx hX
  have SL := Lib.hid sl
  obtain ⟨A, cap, rfl, hlc, hm, hs⟩ := sl
  unfold maxLen at hm
  have DX := Lib.hid dx
  have ZX := Lib.hid zx
  obtain ⟨q, hq⟩ : ∃ q, q = n / 64 := ⟨_, rfl⟩
  obtain ⟨r, hr⟩ : ∃ r, r = n % 64 := ⟨_, rfl⟩
  have hkq : (n : Int) / 64 = (q : Int) := by omega
  have hkr : (n : Int) % 64 = (r : Int) := by omega
  have hr64 : r < 64 := by omega
  have hq9 : q ≤ 20000 := by omega
  have hn2 : n = 64 * q + r := by omega
  obtain ⟨P, hP⟩ : ∃ P : Int, P = 2 ^ r := ⟨_, rfl⟩
  have hP0 : 1 ≤ P ∧ P ≤ 9223372036854775808 := by
    have := pow_pos_ (B := 2) (by omega) r
    have := pow_le_pow_ (B := 2) (by omega) (show r ≤ 63 by omega)
    rw [hP]; omega
  obtain ⟨hP0, hP1⟩ := hP0
  have hpow : (2 : Int) ^ r = P := hP.symm
  have hmin : min r 64 = r := by omega
  have hw1 : IntKind.u64.wrap (1 * P) = P := by rw [IntKind.wrap_u64]; omega
  have hw2 : IntKind.u64.wrap P = P := by rw [IntKind.wrap_u64]; omega
  have hb := bit_of (B := 18446744073709551616) (s := 64) (j := q) (r := r) (by decide) dx hr64
  rw [← hn2] at hb
  by_cases h1 : xs.length ≤ q
  · rw [hb, getD_out h1, Int.zero_ediv]
    rw [show (0 : Int) % 2 = 0 from rfl, Int.mul_zero, Int.sub_zero]
    have hv : val 18446744073709551616 (xs ++ List.replicate (q - xs.length) 0 ++ [P]) = val 18446744073709551616 xs + 2 ^ n := by
      rw [val_snoc, val_append, val_rep, List.length_append, List.length_replicate, show xs.length + (q - xs.length) = q by omega, hn2, Int.pow_add, Int.pow_mul, hpow]
      have : (2 : Int) ^ 64 = 18446744073709551616 := by decide
      rw [this]; simp
    rw [← hv]
    have hop := u64_or_bit 0 r (by omega) (by omega) hr64
    rw [hpow, Int.zero_ediv, show (0 : Int) % 2 = 0 from rfl, Int.mul_zero, Int.sub_zero, Int.zero_add] at hop
    have HDT := Lib.hid ((dx.append (DG.rep (B := 18446744073709551616) (by omega) (q - xs.length))).append (DG.cons (B := 18446744073709551616) (show 0 ≤ P by omega) (by omega) (DG.nil _)))
    have HM := Lib.hid (fun W => make_any (q + 1) W (by omega) (by omega))
    have ein : ((q : Int) + 1).toNat = q + 1 := by omega
    have hwi : IntKind.i64.wrap ((q : Int) + 1) = ((q + 1 : Nat) : Int) := by rw [IntKind.wrap_i64]; omega
    have hg : (xs ++ List.replicate (q + 1 - xs.length) 0).getD q 0 = (0 : Int) := by
      simp only [List.getD_eq_getElem?_getD]
      rw [List.getElem?_append_right h1, List.getElem?_replicate]
      split <;> rfl
    have HG := Lib.hid hg
    clear hg
    have hP00 : P ≠ 0 := by omega
    have HP00 := Lib.hid hP00
    clear hs dx zx hX hb hq hr hn2 hP hv hP00
    go_enter Try.func100, Try.ntmps100
    go_wp2_with (first
      | (go_at_call 120; refine (HM.out _).mono ?_; rintro e w1 ⟨b, c, rfl, hc1, hc2, row, hb, f⟩; have HROW := Lib.hid row; clear row)
      | (refine wp_clear rfl (.tmp 53) _ rfl .u64 87 8 ty_big (some ⟨b, xs.length, none⟩) b xs.length (q + 1 - xs.length) (c - xs.length) rfl (fun _ => rfl) (List.replicate c 0) HROW.out (by simp; omega) ?_; intro w2 row2 f2; rw [spl_same (by omega)] at row2; have HR2 := Lib.hid row2; clear row2; have HF2 := Lib.hid (fr_new'' f f2 hb))
      | (refine wp_copy rfl (.tmp 57) (.tmp 58) _ _ rfl .u64 87 Try.underlying79 size_wordS b 0 (q + 1) c rfl _ xs rfl (SL.out.fr0 HF2.out) (List.replicate c 0) HR2.out (by simp; omega) ?_; intro w3 row3 f3; (rw [List.take_of_length_le (by omega), spl_pad (k := q + 1 - xs.length) (by omega)] at row3; have hfz := row3.frozen q; have cz := row3.cell (i := q) (by rw [spl_len (by simp; omega)]; simp; omega); rw [spl0_get (by simp; omega)] at cz; rw [HG.out] at cz; have HR3 := Lib.hid row3; clear row3)))
    go_ret
    have row4 := HR3.out.set q P
    rw [spl0_set (by simp; omega), pad_set h1] at row4
    have hl4 : (xs ++ List.replicate (q - xs.length) 0 ++ [P]).length = q + 1 := by simp; omega
    exact ⟨_, rfl, ⟨_, (src_spl row4 (by rw [hl4]; simp; omega)).sl hl4 hc1 (by unfold maxLen; omega), HDT.out, NZ.snoc HP00.out, rfl⟩, fr_new'' HF2.out (fr_same' f3 (by apply Fr.set _ (.inl (by simp)); exact Fr.refl _ _)) (by have := f.size; have := f2.size; omega)⟩
  · obtain ⟨x, hx⟩ : ∃ x, x = xs.getD q 0 := ⟨_, rfl⟩
    rw [← hx] at hb
    have hxd := dx.getD (by omega) q
    rw [← hx] at hxd
    obtain ⟨hx0, hx1⟩ := hxd
    have hop := u64_or_bit x r hx0 hx1 hr64
    rw [hpow] at hop
    obtain ⟨d, hd⟩ : ∃ d, d = x / P % 2 := ⟨_, rfl⟩
    have hd2 : 0 ≤ d ∧ d ≤ 1 := by omega
    obtain ⟨t, ht⟩ : ∃ t, t = x + P - P * d := ⟨_, rfl⟩
    rw [← hd, ← ht] at hop
    have ht2 : 0 ≤ t ∧ t < 18446744073709551616 ∧ t ≠ 0 := by
      have e := Int.emod_add_mul_ediv x P
      have e2 := Int.emod_nonneg x (show P ≠ 0 by omega)
      have e6 := Int.emod_lt_of_pos x (show 0 < P by omega)
      have e0 := Int.ediv_nonneg hx0 (show 0 ≤ P by omega)
      have e3 : P * d ≤ P * (x / P) := Int.mul_le_mul_of_nonneg_left (by omega) (by omega)
      have e4 : 0 ≤ P * d := Int.mul_nonneg (by omega) hd2.1
      refine ⟨by omega, ?_, by omega⟩
      rcases (show d = 0 ∨ d = 1 by omega) with h | h
      · -- the bit is not set: x + P is below 2^64
        have hQ : (18446744073709551616 : Int) = P * 2 ^ (64 - r) := by rw [hP, ← Int.pow_add, show r + (64 - r) = 64 by omega]; rfl
        have hQ2 : (2 : Int) ^ (64 - r) = 2 * 2 ^ (63 - r) := by rw [show 64 - r = (63 - r) + 1 by omega, Int.pow_succ, Int.mul_comm]
        have hlt : x / P < 2 ^ (64 - r) := Int.ediv_lt_of_lt_mul (by omega) (by rw [Int.mul_comm, ← hQ]; exact hx1)
        have h5 : x / P + 1 < 2 ^ (64 - r) := by rw [hQ2] at hlt ⊢; omega
        have h6 := Int.mul_le_mul_of_nonneg_left (show x / P + 2 ≤ 2 ^ (64 - r) by omega) (show 0 ≤ P by omega)
        rw [← hQ, Int.mul_add] at h6
        rw [ht, h]
        omega
      · rw [ht, h]; omega
    have hv : val 18446744073709551616 (xs.set q t) = val 18446744073709551616 xs - 2 ^ n * (val 18446744073709551616 xs / 2 ^ n % 2) + 2 ^ n := by
      rw [val_setbit (c := 1 - d) hn2 (by omega) (by rw [← hx, hpow, ht]; grind), hb, hpow, ← hd, Int.mul_sub]; omega
    rw [← hv]
    have HM := Lib.hid (fun W => make_any xs.length W (by omega) (by omega))
    have HDT := Lib.hid (dx.set q ht2.1 ht2.2.1)
    have HNT := Lib.hid (zx.set (j := q) (by omega) ht2.2.2)
    have HX := Lib.hid hx
    clear hs dx zx hX hb hq hr hn2 hP hx hd hd2 ht ht2 hv
    go_enter Try.func100, Try.ntmps100
    go_wp2_with (first
      | (go_at_call 120; refine (HM.out _).mono ?_; rintro e w1 ⟨b, c, rfl, hc1, hc2, row, hb, f⟩; have HROW := Lib.hid row; clear row)
      | (refine wp_copy rfl (.tmp 57) (.tmp 58) _ _ rfl .u64 87 Try.underlying79 size_wordS b 0 xs.length c rfl _ xs rfl (SL.out.fr0 f) (List.replicate c 0) HROW.out (by simp; omega) ?_; intro w2 row2 f2; rw [List.take_length] at row2; have hfz := row2.frozen q; have cz := row2.cell (i := q) (by rw [spl_len (by simp; omega)]; simp; omega); rw [spl0_get (by omega), ← HX.out] at cz; have HR2 := Lib.hid row2; clear row2))
    go_ret
    have row3 := HR2.out.set q t
    rw [spl0_set (by omega)] at row3
    exact ⟨_, rfl, ⟨_, (src_spl row3 (by simp; omega)).sl (by simp) hc1 (by unfold maxLen; omega), HDT.out, HNT.out, rfl⟩, fr_new'' f (fr_same' f2 (by apply Fr.set _ (.inl (by simp)); exact Fr.refl _ _)) hb⟩
/-- the number with one bit put -/
def putBit (X : Int) (n : Nat) (b : Int) : Int := X - 2 ^ n * (X / 2 ^ n % 2) + 2 ^ n * b
theorem setBit_any (v : Value) (X : Int) (n : Nat) (b : Int) (w : World) (h : SW w v X) (hX : X < BIG) (hn : n ≤ 1000000) (hb : b = 0 ∨ b = 1) : Calls Try.prog 100 #[.slice none 0 0, v, .int .u64 (n : Int), .int .u64 b] w (RetW (putBit X n b) w) := by
  rcases hb with rfl | rfl
  · have := setBit0_any v X n w h hX hn
    rwa [show putBit X n 0 = X - 2 ^ n * (X / 2 ^ n % 2) by unfold putBit; rw [Int.mul_zero, Int.add_zero]]
  · have := setBit1_any v X n w h hX hn
    rwa [show putBit X n 1 = X - 2 ^ n * (X / 2 ^ n % 2) + 2 ^ n by unfold putBit; rw [Int.mul_one]]
set_option maxRecDepth 100000 in
theorem implSetBit_any (v : Value) (xs : List Int) (n : Nat) (b : Int) (w : World) (hx : Sl .u64 w v xs) (hd : DG 18446744073709551616 xs) (hl : xs.length ≤ 1000000) (hn : n ≤ 100000) (hb : b = 0 ∨ b = 1) (hB : putBit (val 18446744073709551616 xs) n b < BIG) :
    Calls Try.prog 35 #[v, .int .u64 (n : Int), .int .u64 b] w (RetW (putBit (val 18446744073709551616 xs) n b) w) := by
  have HX := Lib.hid hx
  have HD := Lib.hid hd
  have HB := Lib.hid (words_BIG hd hl)
  have HPB := Lib.hid hB
  have HBB := Lib.hid hb
  have hb0 : 0 ≤ b ∧ b ≤ 1 := by omega
  obtain ⟨hb0, hb1⟩ := hb0
  obtain ⟨X, hX⟩ : ∃ X, val 18446744073709551616 xs = X := ⟨_, rfl⟩
  have HV := Lib.hid hX
  rw [hX] at HB HPB ⊢
  obtain ⟨R, hR⟩ : ∃ R, putBit X n b = R := ⟨_, rfl⟩
  have C := Lib.hid (fun v W (h : SW W v X) => setBit_any v X n b W h HB.out (by omega) hb)
  rw [hR] at HPB C ⊢
  clear hx hd hX hB hb hR
  go_enter Try.func35, Try.ntmps35
  go_wp2_with fail
  trace "C"
  go_wp2_with (first
    | (go_at_call 67; refine (normed_any _ xs _ HX.out HD.out hl).mono ?_; rintro e w1 ⟨v1, ys, rfl, sl1, dy, nzy, hvy, hly, f1⟩; have HVY := Lib.hid hvy; clear hvy)
    | (go_at_call 92; refine (zzIn_any _ ys _ sl1 (by omega)).mono ?_; rintro e w2 ⟨b2, rfl, row2, hb2, f2⟩; trace "A")
    | (go_at_call 100; trace "B"; have sw2 := SW.mk row2 dy nzy (by omega); rw [HVY.out, HV.out] at sw2; refine (C.out _ _ sw2).mono ?_; rintro e w3 ⟨v3, rfl, sw3, f3⟩)
    | (go_at_call 97; refine (zzOutW_any _ _ _ sw3 HPB.out).mono ?_; rintro e w4 ⟨v4, rfl, sw4, f4⟩)
    | (go_at_call 73; go_in))
  go_ret
  exact ⟨_, rfl, sw4, ((f1.t f2).t f3).t f4⟩
end Go.Proofs.Ytjapebgihnahjaa
