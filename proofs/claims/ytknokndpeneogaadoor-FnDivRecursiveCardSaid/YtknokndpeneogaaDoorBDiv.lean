/-
  bitsDiv64, bitsDiv, reciprocalWord. Conditions: the divisor's upper bit is set, or the upper word is 0.
-/
import Derived.Test.YtknokndpeneogaaDoorDiv64
import Derived.Test.YtknokndpeneogaaDoorLNlz
import Derived.Test.YtknokndpeneogaaDoorgWord
set_option linter.unusedSimpArgs false
set_option linter.unusedVariables false
namespace Go.Proofs.YtknokndpeneogaaDoor
open Go.Big Go.RowKit
set_option maxRecDepth 100000 in
theorem bd0_any (lo y : Int) (w : World) (h0 : 0 ≤ lo) (h1 : lo < 18446744073709551616) (hy0 : 0 < y) (hy1 : y < 18446744073709551616) :
    Calls Tryd.prog 155 #[.int .u64 0, .int .u64 lo, .int .u64 y] w fun e w' => e = .returned (.tuple #[.int .u64 (lo / y), .int .u64 (lo % y)]) ∧ Fr [] w w' := by
  have hy2 : (y == 0) = false := by rw [beq_eq_false_iff_ne]; omega
  have q0 : 0 ≤ lo / y := Int.ediv_nonneg h0 (by omega)
  have q1 : lo / y < 18446744073709551616 := Int.lt_of_le_of_lt (Int.ediv_le_self _ h0) h1
  have r0 : 0 ≤ lo % y := Int.emod_nonneg _ (by omega)
  have r1 : lo % y < 18446744073709551616 := by have := Int.emod_lt_of_pos lo hy0; omega
  have e1 : lo.tdiv y = lo / y := Int.tdiv_eq_ediv_of_nonneg h0
  have e2 : lo.tmod y = lo % y := Int.tmod_eq_emod_of_nonneg h0
  go_enter Tryd.func155, Tryd.ntmps155
  go_wp2_with fail
  go_quiet (fail)
  go_wp2_with fail
  go_ret2
  exact ⟨rfl, (Fr.refl _ _).drewN _⟩
def DigRel (u n y y1 : Int) (g : Nat) (qv rv : Value) (wr : World) (w0 : World) : Prop :=
  ∃ q r : Int, (u * 4294967296 + n) / y ≤ q ∧ q ≤ 4294967297 ∧ 0 ≤ q ∧ qv = .int .u64 q ∧ rv = .int .u64 r ∧ q * y1 + r = u ∧ 0 ≤ r ∧ r < 4294967296 ∧ g = (4294967296 - r).toNat ∧ w0 = wr
theorem bitLen_top (y : Int) (h0 : 9223372036854775808 ≤ y) (h1 : y < 18446744073709551616) : Lib.bitLen y.toNat = 64 := by
  have h := isLen_word y (by omega) h1
  have k : IsLen y 64 := .inr ⟨by omega, by simpa using h0, by simpa using h1⟩
  exact h.unique k
theorem lz_top (y : Int) (w : World) (h0 : 9223372036854775808 ≤ y) (h1 : y < 18446744073709551616) : Calls Tryd.prog 156 #[.int .u64 y] w fun e w' => e = .returned (.int .i64 0) ∧ w = w' := by
  have C := Lib.hid (len64_any y w (by omega) h1)
  rw [bitLen_top y h0 h1] at C
  go_enter Tryd.func156, Tryd.ntmps156
  go_wp2_with (go_at_call 119; refine (Hid.out C).mono ?_; rintro e w' ⟨rfl, rfl⟩)
  go_ret
  exact ⟨rfl, rfl⟩
set_option maxRecDepth 100000 in
set_option maxHeartbeats 8000000 in
theorem bd1_any (u lo y : Int) (w : World) (hu0 : 0 < u) (huy : u < y) (h0 : 0 ≤ lo) (h1 : lo < 18446744073709551616) (hy0 : 9223372036854775808 ≤ y) (hyW : y < 18446744073709551616) :
    Calls Tryd.prog 155 #[.int .u64 u, .int .u64 lo, .int .u64 y] w fun e w' => e = .returned (.tuple #[.int .u64 ((u * 18446744073709551616 + lo) / y), .int .u64 ((u * 18446744073709551616 + lo) % y)]) ∧ w = w' := by
  have C := Lib.hid (lz_top y w hy0 hyW)
  obtain ⟨y1, hy1⟩ : ∃ y1, y1 = y / 4294967296 := ⟨_, rfl⟩
  obtain ⟨y0, hy0'⟩ : ∃ y0, y0 = y % 4294967296 := ⟨_, rfl⟩
  obtain ⟨n, hn⟩ : ∃ n, n = lo / 4294967296 := ⟨_, rfl⟩
  obtain ⟨m, hm⟩ : ∃ m, m = lo % 4294967296 := ⟨_, rfl⟩
  have hyd : y = y1 * 4294967296 + y0 := by omega
  have hlod : lo = n * 4294967296 + m := by omega
  have hy1b : 2147483648 ≤ y1 ∧ y1 < 4294967296 := by omega
  obtain ⟨hy1b, hy1c⟩ := hy1b
  have hy0b : 0 ≤ y0 ∧ y0 < 4294967296 := by omega
  obtain ⟨hy0b, hy0c⟩ := hy0b
  have hnb : 0 ≤ n ∧ n < 4294967296 := by omega
  obtain ⟨hnb, hnc⟩ := hnb
  have hmb : 0 ≤ m ∧ m < 4294967296 := by omega
  obtain ⟨hmb, hmc⟩ := hmb
  have e1 : y / 4294967296 = y1 := hy1.symm
  have e2 : bits .and .u64 y 4294967295 = y0 := by rw [hy0']; exact and_low32 y (by omega) hyW
  have e3 : lo / 4294967296 = n := hn.symm
  have e4 : bits .and .u64 lo 4294967295 = m := by rw [hm]; exact and_low32 lo h0 h1
  have HY := Lib.hid hyd
  have HLO := Lib.hid hlod
  have HS := Lib.hid (dig_start (H := 4294967296) (u := u) (n := n) (by omega) hyd hy0b hy0c (by omega) hnb hnc (by omega) huy)
  have hor : bits .or .u64 u 0 = u := by
    rw [u64_or u 0 (by omega) (by omega) (by omega) (by omega)]
    simp; omega
  obtain ⟨q0, hq0⟩ : ∃ q0, q0 = u / y1 := ⟨_, rfl⟩
  have eq1 : u / y1 = q0 := hq0.symm
  have eq2 : u.tdiv y1 = q0 := by rw [Int.tdiv_eq_ediv_of_nonneg (by omega)]; exact eq1
  have hS := HS.out
  rw [eq1] at hS
  obtain ⟨s1, s2, s3, s4, s5⟩ := hS
  have eq3 : 0 ≤ q0 * y1 := by have := Int.mul_nonneg s3 (show 0 ≤ y1 by omega); omega
  obtain ⟨r0, hr0⟩ : ∃ r0, r0 = u - q0 * y1 := ⟨_, rfl⟩
  have eq4 : u - q0 * y1 = r0 := hr0.symm
  rw [eq4] at s4 s5
  have S1 := Lib.hid s1
  have HR0 := Lib.hid hr0
  have eq5 : q0 * y1 ≤ u := by omega
  have hyne : (y == 0) = false := by rw [beq_eq_false_iff_ne]; omega
  have hune : (u == 0) = false := by rw [beq_eq_false_iff_ne]; omega
  have hy1ne : (y1 == 0) = false := by rw [beq_eq_false_iff_ne]; omega
  have hlz : lo / 18446744073709551616 = 0 := Int.ediv_eq_zero_of_lt h0 h1
  -- the first digit, and what is left
  obtain ⟨Q, hQQ⟩ : ∃ Q, Q = (u * 4294967296 + n) / y := ⟨_, rfl⟩
  have HQQ := Lib.hid hQQ
  obtain ⟨Q0, Q1, Q2, Q3⟩ := dig_rest (H := 4294967296) (by omega) (by omega) hnb hnc (by omega) huy hQQ
  obtain ⟨t, ht⟩ : ∃ t, t = u * 4294967296 + n - Q * y := ⟨_, rfl⟩
  rw [← ht] at Q2 Q3
  have ht0 : 0 ≤ t := Q2
  have hty : t < y := Q3
  have k1 : IntKind.u64.wrap (IntKind.u64.wrap (IntKind.u64.wrap (u * 4294967296) + n) - IntKind.u64.wrap (Q * y)) = t := by
    simp only [IntKind.wrap_u64]
    exact wrap_diff ht0 (by omega) ht
  obtain ⟨a1, ha1⟩ : ∃ a1, IntKind.u64.wrap (u * 4294967296) = a1 := ⟨_, rfl⟩
  rw [ha1] at k1
  obtain ⟨a2, ha2⟩ : ∃ a2, IntKind.u64.wrap (a1 + n) = a2 := ⟨_, rfl⟩
  rw [ha2] at k1
  obtain ⟨a3, ha3⟩ : ∃ a3, IntKind.u64.wrap (Q * y) = a3 := ⟨_, rfl⟩
  rw [ha3] at k1
  -- the second digit
  have HT := Lib.hid (dig_start (H := 4294967296) (u := t) (n := m) (by omega) hyd hy0b hy0c (by omega) hmb hmc ht0 hty)
  obtain ⟨p0, hp0⟩ : ∃ p0, p0 = t / y1 := ⟨_, rfl⟩
  have fq1 : t / y1 = p0 := hp0.symm
  have fq2 : t.tdiv y1 = p0 := by rw [Int.tdiv_eq_ediv_of_nonneg ht0]; exact fq1
  have hT := HT.out
  rw [fq1] at hT
  obtain ⟨t1, t2, t3, t4, t5⟩ := hT
  have fq3 : 0 ≤ p0 * y1 := Int.mul_nonneg t3 (by omega)
  obtain ⟨r1, hr1'⟩ : ∃ r1, r1 = t - p0 * y1 := ⟨_, rfl⟩
  have fq4 : t - p0 * y1 = r1 := hr1'.symm
  rw [fq4] at t4 t5
  have T1 := Lib.hid t1
  have HR1 := Lib.hid hr1'
  have fq5 : p0 * y1 ≤ t := by omega
  obtain ⟨R, hRR⟩ : ∃ R, R = (t * 4294967296 + m) / y := ⟨_, rfl⟩
  have HR := Lib.hid hRR
  obtain ⟨R0, R1, R2, R3⟩ := dig_rest (H := 4294967296) (by omega) (by omega) hmb hmc ht0 hty hRR
  obtain ⟨z, hz⟩ : ∃ z, z = t * 4294967296 + m - R * y := ⟨_, rfl⟩
  rw [← hz] at R2 R3
  have l1 : IntKind.u64.wrap (IntKind.u64.wrap (IntKind.u64.wrap (t * 4294967296) + m) - IntKind.u64.wrap (R * y)) = z := by
    simp only [IntKind.wrap_u64]
    exact wrap_diff R2 (by omega) hz
  obtain ⟨b1, hb1⟩ : ∃ b1, IntKind.u64.wrap (t * 4294967296) = b1 := ⟨_, rfl⟩
  rw [hb1] at l1
  obtain ⟨b2, hb2⟩ : ∃ b2, IntKind.u64.wrap (b1 + m) = b2 := ⟨_, rfl⟩
  rw [hb2] at l1
  obtain ⟨b3, hb3⟩ : ∃ b3, IntKind.u64.wrap (R * y) = b3 := ⟨_, rfl⟩
  rw [hb3] at l1
  have hfin := dig_two (H := 4294967296) (by omega) ht hRR
  have eW : u * (4294967296 * 4294967296) + (n * 4294967296 + m) = u * 18446744073709551616 + lo := by omega
  rw [eW, ← hz] at hfin
  rw [hfin.1, hfin.2]
  have hle : decide (y ≤ u) = false := by simp; omega
  clear hyd hlod hy1 hy0' hn hm hq0 hr0 s1 hQQ Q2 Q3 ht hp0 t1 hr1' hRR hz hfin eW
  go_enter Tryd.func155, Tryd.ntmps155
  go_wp2_with (first
    | (go_at_call 156; refine (Hid.out C).mono ?_; rintro e w' ⟨rfl, rfl⟩))
  go_loopg [15, 16] (4294967296 - r0).toNat (fun g qv rv wr => DigRel u n y y1 g qv rv wr w)
  case atStart => exact ⟨q0, r0, S1.out, by omega, s3, rfl, rfl, by have := HR0.out; omega, s4, by omega, rfl, rfl⟩
  case round =>
    clear eq1 eq2 eq3 eq4 eq5 S1 HR0 s2 s3 s4 s5
    obtain ⟨q, r, hq0, hq1, hq2, rfl, rfl, hqr, hr0, hr1, rfl, rfl⟩ := hrel
    have HQ0 := Lib.hid hq0
    have HQR := Lib.hid hqr
    clear hq0 hqr
    by_cases hc : 4294967296 ≤ q ∨ 4294967296 * r + n < q * y0
    · have hgo := dig_go (H := 4294967296) (by omega) HY.out (by omega) hnb hnc (by omega) huy HQR.out hc
      have hqpos : 1 ≤ q := by
        have := Int.ediv_nonneg (show 0 ≤ u * 4294967296 + n by omega) (show 0 ≤ y by omega); omega
      have HGO := Lib.hid hgo
      have HQR2 := Lib.hid (show (q - 1) * y1 + (r + y1) = u by have := HQR.out; rw [Int.sub_mul]; omega)
      clear hgo
      by_cases hb : 4294967296 ≤ r + y1
      · have hQ := dig_break (H := 4294967296) (by omega) HY.out (by omega) hy0b hy0c hnb HQR2.out HGO.out (by omega) (by omega) hb
        rw [← HQQ.out] at hQ
        obtain rfl : q = Q + 1 := by omega
        clear hQ HQR HQR2 HGO HQ0
        by_cases hq4 : 4294967296 ≤ Q + 1
        · go_wp2_with fail
          go_loopg [18, 16] (4294967296 - r1).toNat (fun g qv rv wr => DigRel t m y y1 g qv rv wr w)
          case atStart => exact ⟨p0, r1, T1.out, by omega, t3, rfl, rfl, by have := HR1.out; omega, t4, by omega, rfl, rfl⟩
          case round =>
            obtain ⟨q, r, hq0, hq1, hq2, rfl, rfl, hqr, hr0, hr1, rfl, rfl⟩ := hrel
            have HQ0 := Lib.hid hq0
            have HQR := Lib.hid hqr
            clear hq0 hqr
            by_cases hc : 4294967296 ≤ q ∨ 4294967296 * r + m < q * y0
            · have hgo := dig_go (H := 4294967296) (by omega) HY.out (by omega) hmb hmc ht0 hty HQR.out hc
              have hqpos : 1 ≤ q := by
                have := Int.ediv_nonneg (show 0 ≤ t * 4294967296 + m by omega) (show 0 ≤ y by omega); omega
              have HGO := Lib.hid hgo
              have HQR2 := Lib.hid (show (q - 1) * y1 + (r + y1) = t by have := HQR.out; rw [Int.sub_mul]; omega)
              clear hgo
              by_cases hb : 4294967296 ≤ r + y1
              · have hQ := dig_break (H := 4294967296) (by omega) HY.out (by omega) hy0b hy0c hmb HQR2.out HGO.out (by omega) (by omega) hb
                rw [← HR.out] at hQ
                obtain rfl : q = R + 1 := by omega
                clear hQ
                by_cases hq4 : 4294967296 ≤ R + 1
                · go_wp2_with fail
                  go_ret2
                  exact ⟨rfl, rfl⟩
                · have hpr : 4294967296 * r + m < (R + 1) * y0 := by omega
                  have hpr0 : 0 ≤ (R + 1) * y0 := Int.mul_nonneg hq2 hy0b
                  have hpr1 : (R + 1) * y0 < 18446744073709551616 := by have := Int.mul_le_mul (show R + 1 ≤ 4294967295 by omega) (show y0 ≤ 4294967295 by omega) hy0b (by omega); omega
                  go_wp2_with fail
                  go_ret2
                  exact ⟨rfl, rfl⟩
              · by_cases hq4 : 4294967296 ≤ q
                · go_wp2_with fail
                  go_roundg (4294967296 - (r + y1)).toNat
                  case measure => omega
                  case rel => exact ⟨q - 1, r + y1, HGO.out, by omega, by omega, rfl, rfl, HQR2.out, by omega, by omega, rfl, rfl⟩
                · have hpr : 4294967296 * r + m < q * y0 := by omega
                  have hpr0 : 0 ≤ q * y0 := Int.mul_nonneg hq2 hy0b
                  have hpr1 : q * y0 < 18446744073709551616 := by have := Int.mul_le_mul (show q ≤ 4294967295 by omega) (show y0 ≤ 4294967295 by omega) hy0b (by omega); omega
                  go_wp2_with fail
                  go_roundg (4294967296 - (r + y1)).toNat
                  case measure => omega
                  case rel => exact ⟨q - 1, r + y1, HGO.out, by omega, by omega, rfl, rfl, HQR2.out, by omega, by omega, rfl, rfl⟩
            · have hqH : q < 4294967296 := by omega
              have hprod : q * y0 ≤ 4294967296 * r + m := by omega
              have hprod0 : 0 ≤ q * y0 := Int.mul_nonneg hq2 hy0b
              have hprod1 : q * y0 < 18446744073709551616 := by omega
              have hQ := dig_stop (H := 4294967296) HY.out (by omega) HQR.out HQ0.out hprod
              rw [← HR.out] at hQ
              obtain rfl : q = R := hQ
              clear hc
              go_wp2_with fail
              go_ret2
              exact ⟨rfl, rfl⟩
        · have hpr : 4294967296 * r + n < (Q + 1) * y0 := by omega
          have hpr0 : 0 ≤ (Q + 1) * y0 := Int.mul_nonneg hq2 hy0b
          have hpr1 : (Q + 1) * y0 < 18446744073709551616 := by have := Int.mul_le_mul (show Q + 1 ≤ 4294967295 by omega) (show y0 ≤ 4294967295 by omega) hy0b (by omega); omega
          go_wp2_with fail
          go_loopg [18, 16] (4294967296 - r1).toNat (fun g qv rv wr => DigRel t m y y1 g qv rv wr w)
          case atStart => exact ⟨p0, r1, T1.out, by omega, t3, rfl, rfl, by have := HR1.out; omega, t4, by omega, rfl, rfl⟩
          case round =>
            obtain ⟨q, r, hq0, hq1, hq2, rfl, rfl, hqr, hr0, hr1, rfl, rfl⟩ := hrel
            have HQ0 := Lib.hid hq0
            have HQR := Lib.hid hqr
            clear hq0 hqr
            by_cases hc : 4294967296 ≤ q ∨ 4294967296 * r + m < q * y0
            · have hgo := dig_go (H := 4294967296) (by omega) HY.out (by omega) hmb hmc ht0 hty HQR.out hc
              have hqpos : 1 ≤ q := by
                have := Int.ediv_nonneg (show 0 ≤ t * 4294967296 + m by omega) (show 0 ≤ y by omega); omega
              have HGO := Lib.hid hgo
              have HQR2 := Lib.hid (show (q - 1) * y1 + (r + y1) = t by have := HQR.out; rw [Int.sub_mul]; omega)
              clear hgo
              by_cases hb : 4294967296 ≤ r + y1
              · have hQ := dig_break (H := 4294967296) (by omega) HY.out (by omega) hy0b hy0c hmb HQR2.out HGO.out (by omega) (by omega) hb
                rw [← HR.out] at hQ
                obtain rfl : q = R + 1 := by omega
                clear hQ
                by_cases hq4 : 4294967296 ≤ R + 1
                · go_wp2_with fail
                  go_ret2
                  exact ⟨rfl, rfl⟩
                · have hpr : 4294967296 * r + m < (R + 1) * y0 := by omega
                  have hpr0 : 0 ≤ (R + 1) * y0 := Int.mul_nonneg hq2 hy0b
                  have hpr1 : (R + 1) * y0 < 18446744073709551616 := by have := Int.mul_le_mul (show R + 1 ≤ 4294967295 by omega) (show y0 ≤ 4294967295 by omega) hy0b (by omega); omega
                  go_wp2_with fail
                  go_ret2
                  exact ⟨rfl, rfl⟩
              · by_cases hq4 : 4294967296 ≤ q
                · go_wp2_with fail
                  go_roundg (4294967296 - (r + y1)).toNat
                  case measure => omega
                  case rel => exact ⟨q - 1, r + y1, HGO.out, by omega, by omega, rfl, rfl, HQR2.out, by omega, by omega, rfl, rfl⟩
                · have hpr : 4294967296 * r + m < q * y0 := by omega
                  have hpr0 : 0 ≤ q * y0 := Int.mul_nonneg hq2 hy0b
                  have hpr1 : q * y0 < 18446744073709551616 := by have := Int.mul_le_mul (show q ≤ 4294967295 by omega) (show y0 ≤ 4294967295 by omega) hy0b (by omega); omega
                  go_wp2_with fail
                  go_roundg (4294967296 - (r + y1)).toNat
                  case measure => omega
                  case rel => exact ⟨q - 1, r + y1, HGO.out, by omega, by omega, rfl, rfl, HQR2.out, by omega, by omega, rfl, rfl⟩
            · have hqH : q < 4294967296 := by omega
              have hprod : q * y0 ≤ 4294967296 * r + m := by omega
              have hprod0 : 0 ≤ q * y0 := Int.mul_nonneg hq2 hy0b
              have hprod1 : q * y0 < 18446744073709551616 := by omega
              have hQ := dig_stop (H := 4294967296) HY.out (by omega) HQR.out HQ0.out hprod
              rw [← HR.out] at hQ
              obtain rfl : q = R := hQ
              clear hc
              go_wp2_with fail
              go_ret2
              exact ⟨rfl, rfl⟩
      · by_cases hq4 : 4294967296 ≤ q
        · go_wp2_with fail
          go_roundg (4294967296 - (r + y1)).toNat
          case measure => omega
          case rel => exact ⟨q - 1, r + y1, HGO.out, by omega, by omega, rfl, rfl, HQR2.out, by omega, by omega, rfl, rfl⟩
        · have hpr : 4294967296 * r + n < q * y0 := by omega
          have hpr0 : 0 ≤ q * y0 := Int.mul_nonneg hq2 hy0b
          have hpr1 : q * y0 < 18446744073709551616 := by have := Int.mul_le_mul (show q ≤ 4294967295 by omega) (show y0 ≤ 4294967295 by omega) hy0b (by omega); omega
          go_wp2_with fail
          go_roundg (4294967296 - (r + y1)).toNat
          case measure => omega
          case rel => exact ⟨q - 1, r + y1, HGO.out, by omega, by omega, rfl, rfl, HQR2.out, by omega, by omega, rfl, rfl⟩
    · have hqH : q < 4294967296 := by omega
      have hprod : q * y0 ≤ 4294967296 * r + n := by omega
      have hprod0 : 0 ≤ q * y0 := Int.mul_nonneg hq2 hy0b
      have hprod1 : q * y0 < 18446744073709551616 := by omega
      have hQ := dig_stop (H := 4294967296) HY.out (by omega) HQR.out HQ0.out hprod
      rw [← HQQ.out] at hQ
      obtain rfl : q = Q := hQ
      clear hc HQR HQ0
      go_wp2_with fail
      clear hprod hprod0 hprod1
      go_loopg [18, 16] (4294967296 - r1).toNat (fun g qv rv wr => DigRel t m y y1 g qv rv wr w)
      case atStart => exact ⟨p0, r1, T1.out, by omega, t3, rfl, rfl, by have := HR1.out; omega, t4, by omega, rfl, rfl⟩
      case round =>
        obtain ⟨q, r, hq0, hq1, hq2, rfl, rfl, hqr, hr0, hr1, rfl, rfl⟩ := hrel
        have HQ0 := Lib.hid hq0
        have HQR := Lib.hid hqr
        clear hq0 hqr
        by_cases hc : 4294967296 ≤ q ∨ 4294967296 * r + m < q * y0
        · have hgo := dig_go (H := 4294967296) (by omega) HY.out (by omega) hmb hmc ht0 hty HQR.out hc
          have hqpos : 1 ≤ q := by
            have := Int.ediv_nonneg (show 0 ≤ t * 4294967296 + m by omega) (show 0 ≤ y by omega); omega
          have HGO := Lib.hid hgo
          have HQR2 := Lib.hid (show (q - 1) * y1 + (r + y1) = t by have := HQR.out; rw [Int.sub_mul]; omega)
          clear hgo
          by_cases hb : 4294967296 ≤ r + y1
          · have hQ := dig_break (H := 4294967296) (by omega) HY.out (by omega) hy0b hy0c hmb HQR2.out HGO.out (by omega) (by omega) hb
            rw [← HR.out] at hQ
            obtain rfl : q = R + 1 := by omega
            clear hQ
            by_cases hq4 : 4294967296 ≤ R + 1
            · go_wp2_with fail
              go_ret2
              exact ⟨rfl, rfl⟩
            · have hpr : 4294967296 * r + m < (R + 1) * y0 := by omega
              have hpr0 : 0 ≤ (R + 1) * y0 := Int.mul_nonneg hq2 hy0b
              have hpr1 : (R + 1) * y0 < 18446744073709551616 := by have := Int.mul_le_mul (show R + 1 ≤ 4294967295 by omega) (show y0 ≤ 4294967295 by omega) hy0b (by omega); omega
              go_wp2_with fail
              go_ret2
              exact ⟨rfl, rfl⟩
          · by_cases hq4 : 4294967296 ≤ q
            · go_wp2_with fail
              go_roundg (4294967296 - (r + y1)).toNat
              case measure => omega
              case rel => exact ⟨q - 1, r + y1, HGO.out, by omega, by omega, rfl, rfl, HQR2.out, by omega, by omega, rfl, rfl⟩
            · have hpr : 4294967296 * r + m < q * y0 := by omega
              have hpr0 : 0 ≤ q * y0 := Int.mul_nonneg hq2 hy0b
              have hpr1 : q * y0 < 18446744073709551616 := by have := Int.mul_le_mul (show q ≤ 4294967295 by omega) (show y0 ≤ 4294967295 by omega) hy0b (by omega); omega
              go_wp2_with fail
              go_roundg (4294967296 - (r + y1)).toNat
              case measure => omega
              case rel => exact ⟨q - 1, r + y1, HGO.out, by omega, by omega, rfl, rfl, HQR2.out, by omega, by omega, rfl, rfl⟩
        · have hqH : q < 4294967296 := by omega
          have hprod : q * y0 ≤ 4294967296 * r + m := by omega
          have hprod0 : 0 ≤ q * y0 := Int.mul_nonneg hq2 hy0b
          have hprod1 : q * y0 < 18446744073709551616 := by omega
          have hQ := dig_stop (H := 4294967296) HY.out (by omega) HQR.out HQ0.out hprod
          rw [← HR.out] at hQ
          obtain rfl : q = R := hQ
          clear hc
          go_wp2_with fail
          go_ret2
          exact ⟨rfl, rfl⟩
end Go.Proofs.YtknokndpeneogaaDoor
