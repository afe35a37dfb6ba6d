/-
  nat.rsh at a nil receiver, the reference's Shr. Conditions: what is read can be read.
-/
import Derived.Test.YtjapebgihnahjaaShiftN
import Derived.Test.YtjapebgihnahjaaSpecA
set_option linter.unusedSimpArgs false
set_option linter.unusedVariables false
namespace Go.Proofs.Ytjapebgihnahjaa
open Go.Big Go.RowKit
theorem div_drop {B : Int} {xs : List Int} {q : Nat} (hB : 0 < B) (hd : DG B xs) (hq : q ≤ xs.length) : val B xs / B ^ q = val B (xs.drop q) := by
  have h1 := val_nonneg hB (hd.take q)
  have h2 := val_lt hB (hd.take q)
  have hp := pow_pos_ hB q
  rw [List.length_take, Nat.min_eq_left hq] at h2
  rw [val_split B xs q hq, Int.add_mul_ediv_left _ _ (by omega), Int.ediv_eq_zero_of_lt h1 h2, Int.zero_add]
theorem shr_zero {B : Int} {xs : List Int} {s a : Nat} (hB : B = 2 ^ a) (hd : DG B xs) (hs : a * xs.length ≤ s) : val B xs / 2 ^ s = 0 := by
  have hB0 : 0 < B := by rw [hB]; exact pow_pos_ (by omega) a
  have h1 := val_nonneg hB0 hd
  have h2 := val_lt hB0 hd
  have h3 := pow_le_pow_ (B := 2) (by omega) hs
  rw [Int.pow_mul, ← hB] at h3
  exact Int.ediv_eq_zero_of_lt h1 (by omega)
theorem rsh_val {z c Y : Int} {r : Nat} (hr : r < 64) (h0 : 0 ≤ c) (h1 : c < 18446744073709551616) (h : z * 18446744073709551616 + c = Y * 2 ^ (64 - r)) : z = Y / 2 ^ r := by
  have e : (18446744073709551616 : Int) = 2 ^ r * 2 ^ (64 - r) := by rw [← Int.pow_add, show r + (64 - r) = 64 by omega]; rfl
  have e2 : z = (z * 18446744073709551616 + c) / 18446744073709551616 := by
    rw [Int.add_comm, Int.add_mul_ediv_right _ _ (by omega), Int.ediv_eq_zero_of_lt h0 h1, Int.zero_add]
  rw [e2, h, e]
  exact Int.mul_ediv_mul_of_pos_left _ _ (pow_pos_ (by omega) _)
set_option maxRecDepth 100000 in
set_option maxHeartbeats 1000000 in
theorem rsh_any (v : Value) (X : Int) (s : Nat) (w : World) (h : SW w v X) (hX : X < BIG) (hs9 : s ≤ 1000000) : Calls Try.prog 103 #[.slice none 0 0, v, .int .u64 (s : Int)] w (RetW (X / 2 ^ s) w) := by
  have H := Lib.hid h
  obtain ⟨xs, sl, dx, zx, rfl⟩ := h
  have hl := len_BIG64 dx zx hX
  have SL := Lib.hid sl
  obtain ⟨A, cap, rfl, hlc, hm, hsrc⟩ := sl
  unfold maxLen at hm
  have DX := Lib.hid dx
  have ZX := Lib.hid zx
  have HXB := Lib.hid hX
  by_cases hs0 : s = 0
  · subst hs0
    rw [show (2 : Int) ^ 0 = 1 from rfl, Int.ediv_one]
    clear hsrc dx zx hX
    go_enter Try.func103, Try.ntmps103
    go_wp2_with (first
      | (go_at_call 125; refine (same_nil _ _ _ _).mono ?_; rintro e w1 ⟨rfl, f1⟩)
      | (go_at_call 126; refine (alias_nil _ _ _ _).mono ?_; rintro e w2 ⟨rfl, f2⟩)
      | (go_at_call 119; refine (set_any _ _ _ ((H.out.fr0 f1).fr0 f2) HXB.out).mono ?_; rintro e w3 ⟨v3, rfl, sw3, f3⟩))
    go_ret
    exact ⟨_, rfl, sw3, (f1.t f2).t f3⟩
  have hse : ((s : Int) == 0) = false := by rw [beq_eq_false_iff_ne]; omega
  obtain ⟨q, hq⟩ : ∃ q, q = s / 64 := ⟨_, rfl⟩
  obtain ⟨r, hr⟩ : ∃ r, r = s % 64 := ⟨_, rfl⟩
  have hkq : (s : Int) / 64 = (q : Int) := by omega
  have hkr : (s : Int) % 64 = (r : Int) := by omega
  have hr64 : r < 64 := by omega
  have hq9 : q ≤ 20000 := by omega
  have hn2 : s = 64 * q + r := by omega
  by_cases hl0 : xs.length ≤ q
  · rw [shr_zero (B := 18446744073709551616) (a := 64) (by decide) dx (by omega)]
    have hw : IntKind.i64.wrap ((xs.length : Int) - (q : Int)) = (xs.length : Int) - (q : Int) := by rw [IntKind.wrap_i64]; omega
    clear hsrc dx zx hX hq hr hn2
    go_enter Try.func103, Try.ntmps103
    go_wp2_with fail
    go_ret
    exact ⟨_, rfl, SW.zero _, Fr.refl _ _⟩
  obtain ⟨n, hn⟩ : ∃ n, xs.length = n + q := ⟨xs.length - q, by omega⟩
  have hn0 : 0 < n := by omega
  have hv : val 18446744073709551616 xs / 2 ^ s = val 18446744073709551616 (xs.drop q) / 2 ^ r := by
    have e : (2 : Int) ^ s = 18446744073709551616 ^ q * 2 ^ r := by rw [hn2, Int.pow_add, Int.pow_mul]; rfl
    rw [e, ← Int.ediv_ediv_of_nonneg (Int.le_of_lt (pow_pos_ (by omega) q)), div_drop (by omega) dx (by omega)]
  rw [hv]
  obtain ⟨b, off, rfl, hb, hs⟩ := hsrc (by omega)
  have HSD := Lib.hid (hs.drop q)
  have HLD := Lib.hid (show (xs.drop q).length = n by rw [List.length_drop]; omega)
  have HDD := Lib.hid (dx.drop q)
  have HM := Lib.hid (fun W => make_any n W hn0 (by omega))
  have hcx : ¬ cap = q := by omega
  have hlc2 : n ≤ cap - q := by omega
  rw [hn] at hl hlc hl0 ⊢
  have hw : IntKind.i64.wrap (((n + q : Nat) : Int) - (q : Int)) = (n : Int) := by rw [IntKind.wrap_i64]; omega
  have hw1 : ((n + q : Nat) : Int) - (q : Int) = (n : Int) := by omega
  have hw2 : ((n + q : Nat) : Int) - (n : Int) = (q : Int) := by omega
  have hw3 : IntKind.i64.wrap (((n + q : Nat) : Int) - (n : Int)) = (q : Int) := by rw [IntKind.wrap_i64]; omega
  have hw4 : (n : Int) + (q : Int) - (q : Int) = (n : Int) := by omega
  have hw5 : (n : Int) + (q : Int) - (n : Int) = (q : Int) := by omega
  have hw6 : n + q - q = n := by omega
  by_cases hr0 : r = 0
  · subst hr0
    have hkr : (s : Int) % 64 = 0 := by omega
    rw [show (2 : Int) ^ 0 = 1 from rfl, Int.ediv_one]
    clear hsrc dx zx hX hq hr hn2 hs hv hn SL H
    go_enter Try.func103, Try.ntmps103
    go_wp2_with (first
      | (go_at_call 120; refine (HM.out _).mono ?_; rintro e w1 ⟨z, c, rfl, hc1, hc2, row, hz, f⟩; have HROW := Lib.hid row; clear row)
      | (refine wp_copy rfl (.tmp 40) (.tmp 45) _ _ rfl .u64 87 Try.underlying79 size_wordS z 0 n c rfl _ (xs.drop q) rfl ((HSD.out.fr f (by simp)).sl HLD.out hlc2 (by unfold maxLen; omega)) (List.replicate c 0) HROW.out (by simp; omega) ?_; intro w2 row2 f2; rw [List.take_of_length_le (by rw [HLD.out]; omega)] at row2; have HR2 := Lib.hid row2; clear row2)
      | (go_at_call 118; refine (bnorm_sl _ (xs.drop q) _ ((src_spl HR2.out (by rw [HLD.out]; simp; omega)).sl HLD.out hc1 (by unfold maxLen; omega)) HDD.out).mono ?_; rintro e w4 ⟨⟨v4, rfl, sw4⟩, rfl⟩))
    go_ret
    exact ⟨_, rfl, sw4, fr_new'' f f2 hz⟩
  · have hre : ((r : Int) == 0) = false := by rw [beq_eq_false_iff_ne]; omega
    clear hsrc dx zx hX hq hr hn2 hs hv hn SL H
    go_enter Try.func103, Try.ntmps103
    go_wp2_with (first
      | (go_at_call 120; refine (HM.out _).mono ?_; rintro e w1 ⟨z, c, rfl, hc1, hc2, row, hz, f⟩; have HROW := Lib.hid row; clear row)
      | (go_at_call 127; go_in)
      | (go_at_call 148; refine (rshVU_any z 0 c b (off + q) (cap - q) n r (List.replicate c 0) (xs.drop q) _ HROW.out (by simp; omega) HLD.out (HSD.out.fr f (by simp)) HDD.out hr64 (.inl (by omega)) hc1 hlc2 (by unfold maxLen; omega) (by omega)).mono ?_; rintro e w2 ⟨zs, k, rfl, row2, f2, hzl, hzd, hk0, hk1, hv⟩; have HZL := Lib.hid hzl; have HV := Lib.hid (rsh_val hr64 hk0 hk1 hv); have HR2 := Lib.hid row2; clear row2 hzl hv)
      | (go_at_call 118; refine (bnorm_sl _ zs _ ((src_spl HR2.out (by rw [HZL.out]; simp; omega)).sl HZL.out hc1 (by unfold maxLen; omega)) hzd).mono ?_; rw [HV.out]; rintro e w4 ⟨⟨v4, rfl, sw4⟩, rfl⟩))
    go_ret
    exact ⟨_, rfl, sw4, fr_new'' f f2 hz⟩
def ShrRel (da : List Int) (X : Int) (q r s : Nat) (w0 : World) (g : Nat) (out iv : Value) (wr : World) : Prop :=
  ∃ (k : Nat) (rs : List Int), (k = 0 ∨ q + k ≤ da.length) ∧ g = da.length - (q + k) ∧ iv = .int .i64 ((q + k : Nat) : Int) ∧ Own .i64 3 w0 wr out rs ∧ Fr [] w0 wr ∧ rs.length = k ∧ DG 65536 rs ∧ val 65536 rs = X / 2 ^ s % 65536 ^ k
theorem shr_digit {ds : List Int} {i r : Nat} (hd : DG 65536 ds) (hr : r < 16) : val 65536 ds / 2 ^ (16 * i + r) % 65536 = (ds.getD i 0 + 65536 * ds.getD (i + 1) 0) / 2 ^ r % 65536 := by
  have e1 : (2 : Int) ^ (16 * i + r) = 65536 ^ i * 2 ^ r := by rw [Int.pow_add, Int.pow_mul]; rfl
  have key : val 65536 ds / 65536 ^ i = ds.getD i 0 + 65536 * (ds.getD (i + 1) 0 + 65536 * val 65536 (ds.drop (i + 2))) := by
    rcases Nat.lt_or_ge i ds.length with h | h
    · rw [div_drop (by omega) hd (by omega), List.drop_eq_getElem_cons h, val_cons, ← getD_in h]
      rcases Nat.lt_or_ge (i + 1) ds.length with h2 | h2
      · rw [List.drop_eq_getElem_cons h2, val_cons, ← getD_in h2]
      · rw [List.drop_eq_nil_of_le h2, getD_out h2, List.drop_eq_nil_of_le (by omega)]; simp [val_nil]
    · rw [getD_out h, getD_out (by omega), List.drop_eq_nil_of_le (by omega)]
      have h1 := val_nonneg (by omega) hd
      have h2 := val_lt_of_len (by omega) hd h
      rw [Int.ediv_eq_zero_of_lt h1 h2]; simp [val_nil]
  rw [e1, ← Int.ediv_ediv_of_nonneg (Int.le_of_lt (pow_pos_ (by omega) i)), key]
  generalize ds.getD i 0 = a
  generalize ds.getD (i + 1) 0 = b
  generalize val 65536 (ds.drop (i + 2)) = t
  have e2 : a + 65536 * (b + 65536 * t) = a + 65536 * b + 2 ^ r * (2 ^ (16 - r) * (65536 * t)) := by
    have : (65536 : Int) = 2 ^ r * 2 ^ (16 - r) := by rw [← Int.pow_add, show r + (16 - r) = 16 by omega]; rfl
    have h3 : 65536 * (65536 * t) = 2 ^ r * (2 ^ (16 - r) * (65536 * t)) := by
      conv => lhs; rw [this]
      grind
    rw [Int.mul_add, h3]; omega
  rw [e2, Int.add_mul_ediv_left _ _ (by have := pow_pos_ (B := 2) (by omega) r; omega), show (2 : Int) ^ (16 - r) * (65536 * t) = 65536 * (2 ^ (16 - r) * t) by grind, Int.add_mul_emod_self_left]
theorem mod_succ_digit {Y B : Int} {k : Nat} (hB : 0 < B) : Y % B ^ (k + 1) = Y % B ^ k + B ^ k * (Y / B ^ k % B) := by
  have hp := pow_pos_ hB k
  have e1 := Int.emod_add_mul_ediv Y (B ^ k)
  have e2 := Int.emod_add_mul_ediv (Y / B ^ k) B
  have h1 := Int.emod_nonneg Y (show B ^ k ≠ 0 by omega)
  have h2 := Int.emod_lt_of_pos Y hp
  have h3 := Int.emod_nonneg (Y / B ^ k) (show B ≠ 0 by omega)
  have h4 := Int.emod_lt_of_pos (Y / B ^ k) hB
  have e : Y = (Y % B ^ k + B ^ k * (Y / B ^ k % B)) + B ^ (k + 1) * (Y / B ^ k / B) := by
    rw [Int.pow_succ]
    grind
  have h5 : B ^ k * (Y / B ^ k % B) ≤ B ^ k * (B - 1) := Int.mul_le_mul_of_nonneg_left (by omega) (by omega)
  have h6 : 0 ≤ B ^ k * (Y / B ^ k % B) := Int.mul_nonneg (by omega) h3
  have e7 : B ^ k * B = B ^ (k + 1) := (Int.pow_succ _ _).symm
  rw [Int.mul_sub, Int.mul_one, e7] at h5
  conv => lhs; rw [e]
  rw [Int.add_mul_emod_self_left, Int.emod_eq_of_lt (by omega) (by omega)]
set_option maxRecDepth 100000 in
set_option maxHeartbeats 1000000 in
theorem shr_any (va : Value) (n : Int) (s : Nat) (w : World) (ha : SN w va n) (hn : n < BIG) (hs9 : s ≤ 1000000) : Calls Try.prog 44 #[va, .int .i64 (s : Int)] w (RetSN (n / 2 ^ s) w) := by
  obtain ⟨da, ⟨A, ca, rfl, hla, hma, hsa⟩, dga, nza, rfl⟩ := ha
  have la := len_BIG dga nza hn
  unfold maxLen at hma
  have DA := Lib.hid dga
  obtain ⟨q, hq⟩ : ∃ q, q = s / 16 := ⟨_, rfl⟩
  obtain ⟨r, hr⟩ : ∃ r, r = s % 16 := ⟨_, rfl⟩
  have hkq : (s : Int) / 16 = (q : Int) := by omega
  have hkr : (s : Int) % 16 = (r : Int) := by omega
  have hr16 : r < 16 := by omega
  have hq9 : q ≤ 70000 := by omega
  have HS2 := Lib.hid (show s = 16 * q + r by omega)
  obtain ⟨P, hP⟩ : ∃ P : Int, P = 2 ^ r := ⟨_, rfl⟩
  have hP0 : 0 < P := by rw [hP]; exact pow_pos_ (by omega) r
  have hpow : (2 : Int) ^ r = P := hP.symm
  have hmin : min r 64 = r := by omega
  have HDG := Lib.hid (fun i => shr_digit (i := i) dga hr16)
  rw [hpow] at HDG
  clear dga nza hn hq hr hP
  go_enter Try.func44, Try.ntmps44
  go_wp2_with fail
  go_loopg [5, 6] (da.length - q) (ShrRel da (val 65536 da) q r s w)
  case atStart => exact ⟨0, [], .inl rfl, rfl, rfl, Own.lit0 _ _ _ _ (Nat.le_refl _), (Fr.refl _ _).alloc _, rfl, DG.nil _, by rw [show (65536 : Int) ^ 0 = 1 from rfl, Int.emod_one]; rfl⟩
  case round =>
    obtain ⟨k, rs, hk, rfl, rfl, hown, hf, hl, hd, hv⟩ := hrel
    have HL := Lib.hid hl
    have HV := Lib.hid hv
    have HD := Lib.hid hd
    have hrl : rs.length < 1099511627776 := by omega
    have HRL := Lib.hid hrl
    obtain ⟨i, hi⟩ : ∃ i, q + k = i := ⟨_, rfl⟩
    have HI := Lib.hid hi
    rw [hi]
    by_cases h1 : i < da.length
    · obtain ⟨ba, oa, rfl, _, sa⟩ := hsa (by omega)
      have cA := (sa.fr hf (by simp)) i h1
      obtain ⟨x, hx⟩ : ∃ x, x = da.getD i 0 := ⟨_, rfl⟩
      obtain ⟨hx0, hx1⟩ := DA.out.getD (by omega) i
      rw [← hx] at hx0 hx1 cA
      obtain ⟨y, hy⟩ : ∃ y, y = da.getD (i + 1) 0 := ⟨_, rfl⟩
      obtain ⟨hy0, hy1⟩ := DA.out.getD (by omega) (i + 1)
      rw [← hy] at hy0 hy1
      obtain ⟨t, ht⟩ : ∃ t, t = x + 65536 * y := ⟨_, rfl⟩
      have hdig := HDG.out i
      rw [← hx, ← hy, ← ht] at hdig
      obtain ⟨u, hu⟩ : ∃ u, u = t / P := ⟨_, rfl⟩
      have hu0 : 0 ≤ u ∧ u < 4294967296 := by
        rw [hu]
        exact ⟨Int.ediv_nonneg (by omega) (by omega), Int.lt_of_le_of_lt (Int.ediv_le_self _ (by omega)) (by omega)⟩
      obtain ⟨hu0, hu1⟩ := hu0
      have hut : t / P = u := hu.symm
      have ht0 : 0 ≤ t := by omega
      have ht1 : t < 4294967296 := by omega
      have HNEXT : ∀ out' wr', Own .i64 3 w wr' out' (rs ++ [u % 65536]) → Fr [] w wr' → ShrRel da (val 65536 da) q r s w (da.length - (i + 1)) out' (.int .i64 ((i : Int) + 1)) wr' := by
        intro out' wr' a1 a2
        refine ⟨k + 1, rs ++ [u % 65536], .inr (by omega), by omega, by congr 1; omega, a1, a2, by simp [HL.out], HD.out.append (DG.cons (by omega) (by omega) (DG.nil _)), ?_⟩
        rw [mod_succ_digit (by omega), val_snoc, HL.out, HV.out, hu]
        congr 2
        rw [← hdig]
        have e : (2 : Int) ^ (16 * i + r) = 2 ^ s * 65536 ^ k := by
          rw [HS2.out, ← HI.out, show 16 * (q + k) + r = (16 * q + r) + 16 * k by omega, Int.pow_add, show (2 : Int) ^ (16 * k) = 65536 ^ k by rw [Int.pow_mul]; rfl]
        rw [e, ← Int.ediv_ediv_of_nonneg (Int.le_of_lt (pow_pos_ (by omega) s))]
      have HN := Lib.hid HNEXT
      have HT := Lib.hid ht
      have hi9 : i ≤ 5000000 := by omega
      by_cases h2 : i + 1 < da.length
      · have cB := (sa.fr hf (by simp)) (i + 1) h2
        rw [← hy] at cB
        have hsum : x + 65536 * y = t := ht.symm
        clear hx hy ht hdig hu HNEXT hl hv hd hrl hi hk sa hsa
        go_wp2_with (at_builtin; refine wp_app1 rfl (.tmp 34) (.tmp 40) _ rfl .i64 _ 8 ty_nat (by omega) w [] _ _ _ rfl hown hf rfl HRL.out ?_; intro v' w' hown' hf')
        go_roundg (da.length - (i + 1))
        case measure => have := HI.out; omega
        case rel => exact HN.out _ _ hown' hf'
      · have hy0' : y = 0 := by rw [hy]; exact getD_out (by omega)
        have hxt : x / P = u := by rw [← hut, ht, hy0']; simp
        have hx2 : ¬ ((i : Int) + 1 < (da.length : Int)) := by omega
        clear hx hy ht hdig hu HNEXT hl hv hd hrl hi hk sa hsa hy0' hut
        go_wp2_with (at_builtin; refine wp_app1 rfl (.tmp 34) (.tmp 40) _ rfl .i64 _ 8 ty_nat (by omega) w [] _ _ _ rfl hown hf rfl HRL.out ?_; intro v' w' hown' hf')
        go_roundg (da.length - (i + 1))
        case measure => have := HI.out; omega
        case rel => exact HN.out _ _ hown' hf'
    · have hfin : val 65536 rs = val 65536 da / 2 ^ s := by
        rw [hv]
        have h0 := val_nonneg (by omega) DA.out
        have h1' := val_lt (by omega) DA.out
        have hq0 := Int.ediv_nonneg h0 (Int.le_of_lt (pow_pos_ (B := 2) (by omega) s))
        refine Int.emod_eq_of_lt hq0 ?_
        refine Int.ediv_lt_of_lt_mul (pow_pos_ (by omega) s) ?_
        have e : (65536 : Int) ^ k * 2 ^ s = 2 ^ (16 * i + r) := by
          have e0 : (2 : Int) ^ (16 * k + (16 * q + r)) = 2 ^ (16 * k) * 2 ^ (16 * q + r) := Int.pow_add _ _ _
          rw [HS2.out, ← HI.out, show 16 * (q + k) + r = 16 * k + (16 * q + r) by omega, e0, show (2 : Int) ^ (16 * k) = 65536 ^ k by rw [Int.pow_mul]; rfl]
        have e3 : (65536 : Int) ^ da.length = 2 ^ (16 * da.length) := by rw [Int.pow_mul]; rfl
        have h3 := pow_le_pow_ (B := 2) (by omega) (show 16 * da.length ≤ 16 * i + r by omega)
        rw [e]
        omega
      have HFIN := Lib.hid hfin
      clear hl hv hrl hfin hsa hi hk
      go_wp2_with (go_at_call 65; refine (trim_own hown HD.out hf).mono ?_; rintro e w2 ⟨v2, rfl, hsn, hf2⟩)
      go_ret
      rw [HFIN.out] at hsn
      exact ⟨v2, rfl, hsn, hf2⟩
end Go.Proofs.Ytjapebgihnahjaa
