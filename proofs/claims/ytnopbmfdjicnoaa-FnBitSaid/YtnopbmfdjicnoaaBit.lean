/-
  spec.Has, nat.bit, and the walk of the law FnBit. Conditions: the words can be read.
-/
import Derived.Test.YtnopbmfdjicnoaaSpecA
import Derived.Test.YtnopbmfdjicnoaaNormed
import Derived.Test.YtnopbmfdjicnoaaFew
import Derived.Laws.Bits64
set_option linter.unusedSimpArgs false
set_option linter.unusedVariables false
namespace Go.Proofs.Ytnopbmfdjicnoaa
open Go.Big Go.RowKit

theorem mod_two_of {x : Int} {r s : Nat} (R : Int) (hr : r < s) : (x + 2 ^ s * R) / 2 ^ r % 2 = x / 2 ^ r % 2 := by
  obtain ⟨t, rfl⟩ : ∃ t, s = r + (t + 1) := ⟨s - r - 1, by omega⟩
  rw [Int.pow_add, Int.pow_succ, show (2 : Int) ^ r * (2 ^ t * 2) * R = 2 ^ r * (2 * (2 ^ t * R)) by grind, Int.add_mul_ediv_left _ _ (by have := pow_pos_ (B := 2) (by omega) r; omega)]
  omega
theorem bit_of {B : Int} {s j r : Nat} {xs : List Int} (hB : B = 2 ^ s) (hd : DG B xs) (hr : r < s) : val B xs / 2 ^ (s * j + r) % 2 = xs.getD j 0 / 2 ^ r % 2 := by
  induction xs generalizing j with
  | nil => simp [val_nil]
  | cons x xs ih =>
    rcases j with _ | j
    · rw [val_cons, hB, Nat.mul_zero, Nat.zero_add, mod_two_of _ hr]
      simp
    · have h := ih (j := j) hd.tail
      have hx := hd.head
      have e1 : (x + B * val B xs) / B = val B xs := by
        rw [Int.add_mul_ediv_left _ _ (by omega), Int.ediv_eq_zero_of_lt hx.1 hx.2, Int.zero_add]
      have e2 : s * (j + 1) + r = s + (s * j + r) := by rw [Nat.mul_succ]; omega
      rw [val_cons, e2, Int.pow_add, ← hB, ← Int.ediv_ediv_of_nonneg (by omega), e1, h]
      simp [List.getD_eq_getElem?_getD]
theorem i64_and1 (x : Int) (h0 : 0 ≤ x) (h1 : x < 9223372036854775808) : bits .and .i64 x 1 = x % 2 := by
  obtain ⟨m, rfl⟩ : ∃ m : Nat, x = m := ⟨x.toNat, by omega⟩
  have hm : (BitVec.ofInt 64 (m : Int)).toNat = m := by
    rw [BitVec.ofInt_natCast, BitVec.toNat_ofNat]; exact Nat.mod_eq_of_lt (by omega)
  have h1 : (BitVec.ofInt 64 (1 : Int)).toNat = 1 := by decide
  show IntKind.i64.wrap ((BitVec.ofInt 64 (m : Int) &&& BitVec.ofInt 64 (1 : Int)).toNat : Int) = _
  rw [BitVec.toNat_and, hm, h1, Nat.and_one_is_mod, IntKind.wrap_i64]
  omega
theorem u64_and1 (x : Int) (h0 : 0 ≤ x) (h1 : x < 18446744073709551616) : bits .and .u64 x 1 = x % 2 := by
  rw [u64_and x 1 h0 h1 (by omega) (by omega)]
  rw [show (1 : Int).toNat = 2 ^ 1 - 1 from rfl, Nat.and_two_pow_sub_one_eq_mod]
  omega

set_option maxRecDepth 100000 in
set_option maxHeartbeats 1000000 in
theorem has_any (va : Value) (n : Int) (k : Nat) (w : World) (ha : SN w va n) (hk : k < 4611686018427387904) :
    Calls Try.prog 30 #[va, .int .i64 (k : Int)] w fun e w' => e = .returned (.bool (n / 2 ^ k % 2 == 1)) ∧ w = w' := by
  obtain ⟨da, ⟨A, ca, rfl, hla, hma, hsa⟩, dga, nza, rfl⟩ := ha
  unfold maxLen at hma
  obtain ⟨q, hq⟩ : ∃ q, q = k / 16 := ⟨_, rfl⟩
  obtain ⟨r, hr⟩ : ∃ r, r = k % 16 := ⟨_, rfl⟩
  have hr16 : r < 16 := by omega
  have hb := bit_of (B := 65536) (s := 16) (j := q) (r := r) (by decide) dga hr16
  rw [show 16 * q + r = k by omega] at hb
  obtain ⟨x, hx⟩ : ∃ x, x = da.getD q 0 := ⟨_, rfl⟩
  obtain ⟨hx0, hx1⟩ := dga.getD (by omega) q
  rw [← hx] at hb hx0 hx1
  rw [hb]
  obtain ⟨P, hP⟩ : ∃ P : Int, P = 2 ^ r := ⟨_, rfl⟩
  have hP0 : 0 < P := by rw [hP]; exact pow_pos_ (by omega) r
  rw [← hP]
  have hkq : (k : Int) / 16 = (q : Int) := by omega
  have hkr : (k : Int) % 16 = (r : Int) := by omega
  have hmin : min r 64 = r := by omega
  have hpow : (2 : Int) ^ r = P := hP.symm
  have hy0 : 0 ≤ x / P := Int.ediv_nonneg hx0 (by omega)
  have hy1 : x / P < 65536 := Int.lt_of_le_of_lt (Int.ediv_le_self _ hx0) hx1
  have hand := i64_and1 (x / P) hy0 (by omega)
  obtain ⟨d, hd⟩ : ∃ d, d = x / P % 2 := ⟨_, rfl⟩
  rw [← hd] at hand ⊢
  have HD := Lib.hid hd
  clear hb hq hr hP nza dga hd
  by_cases h1 : q < da.length
  · obtain ⟨b, o, rfl, _, sa⟩ := hsa (by omega)
    have cA := sa q h1
    rw [← hx] at cA
    clear sa hsa hx
    obtain ⟨y, hy⟩ : ∃ y, y = x / P := ⟨_, rfl⟩
    rw [← hy] at hand hy0 hy1
    have hsh : x / P = y := hy.symm
    clear hy
    go_enter Try.func30, Try.ntmps30
    go_wp2_with fail
    go_ret
    exact ⟨rfl, rfl⟩
  · have hx00 : x = 0 := by rw [hx]; exact getD_out (by omega)
    have hd0 : d = 0 := by rw [HD.out, hx00]; simp
    rw [hd0]
    clear hsa hx hx00 hd0 hand hy0 hy1 hx0 hx1 HD hpow hmin
    go_enter Try.func30, Try.ntmps30
    go_wp2_with fail
    go_ret
    exact ⟨rfl, rfl⟩
set_option maxRecDepth 100000 in
set_option maxHeartbeats 1000000 in
theorem nbit_any (b c : Nat) (xs : List Int) (k : Nat) (w : World) (hx : Row .u64 68 w b xs) (hd : DG 18446744073709551616 xs) (hl : xs.length ≤ 1000000) (hk : k < 18446744073709551616) :
    Calls Try.prog 69 #[.slice (some ⟨b, 0, none⟩) xs.length c, .int .u64 (k : Int)] w fun e w' => e = .returned (.int .u64 (val 18446744073709551616 xs / 2 ^ k % 2)) ∧ w = w' := by
  obtain ⟨q, hq⟩ : ∃ q, q = k / 64 := ⟨_, rfl⟩
  obtain ⟨r, hr⟩ : ∃ r, r = k % 64 := ⟨_, rfl⟩
  have hr64 : r < 64 := by omega
  have hb := bit_of (B := 18446744073709551616) (s := 64) (j := q) (r := r) (by decide) hd hr64
  rw [show 64 * q + r = k by omega] at hb
  obtain ⟨x, hx'⟩ : ∃ x, x = xs.getD q 0 := ⟨_, rfl⟩
  obtain ⟨hx0, hx1⟩ := hd.getD (by omega) q
  rw [← hx'] at hb hx0 hx1
  rw [hb]
  obtain ⟨P, hP⟩ : ∃ P : Int, P = 2 ^ r := ⟨_, rfl⟩
  have hP0 : 0 < P := by rw [hP]; exact pow_pos_ (by omega) r
  rw [← hP]
  have hkq : (k : Int) / 64 = (q : Int) := by omega
  have hkr : (k : Int) % 64 = (r : Int) := by omega
  have hq2 : q < 18446744073709551616 := by omega
  have hmin : min r 64 = r := by omega
  have hpow : (2 : Int) ^ r = P := hP.symm
  have hy0 : 0 ≤ x / P := Int.ediv_nonneg hx0 (by omega)
  have hy1 : x / P < 18446744073709551616 := Int.lt_of_le_of_lt (Int.ediv_le_self _ hx0) hx1
  have hand := u64_and1 (x / P) hy0 (by omega)
  obtain ⟨d, hd'⟩ : ∃ d, d = x / P % 2 := ⟨_, rfl⟩
  rw [← hd'] at hand ⊢
  have HD := Lib.hid hd'
  clear hb hq hr hP hd hd'
  by_cases h1 : q < xs.length
  · have cA := hx.cell (i := q) h1
    rw [← hx'] at cA
    clear hx hx'
    obtain ⟨y, hy⟩ : ∃ y, y = x / P := ⟨_, rfl⟩
    rw [← hy] at hand hy0 hy1
    have hsh : x / P = y := hy.symm
    clear hy
    go_enter Try.func69, Try.ntmps69
    go_wp2_with fail
    go_ret
    exact ⟨rfl, rfl⟩
  · have hx00 : x = 0 := by rw [hx']; exact getD_out (by omega)
    have hd0 : d = 0 := by rw [HD.out, hx00]; simp
    rw [hd0]
    clear hx hx' hx00 hd0 hand hy0 hy1 hx0 hx1 HD hpow hmin
    go_enter Try.func69, Try.ntmps69
    go_wp2_with fail
    go_ret
    exact ⟨rfl, rfl⟩
set_option maxRecDepth 100000 in
theorem implBit_any (v : Value) (xs : List Int) (k : Nat) (w : World) (hx : Sl .u64 w v xs) (hd : DG 18446744073709551616 xs) (hl : xs.length ≤ 1000000) (hk : k < 18446744073709551616) :
    Calls Try.prog 29 #[v, .int .u64 (k : Int)] w fun e w' => e = .returned (.int .u64 (val 18446744073709551616 xs / 2 ^ k % 2)) ∧ Fr [] w w' := by
  have HX := Lib.hid hx
  have HD := Lib.hid hd
  clear hx hd
  obtain ⟨d, hd⟩ : ∃ d, val 18446744073709551616 xs / 2 ^ k % 2 = d := ⟨_, rfl⟩
  have HE := Lib.hid hd
  rw [hd]
  clear hd
  go_enter Try.func29, Try.ntmps29
  go_wp2_with (first
    | (go_at_call 48; refine (normed_any _ xs _ HX.out HD.out hl).mono ?_; rintro e w1 ⟨v1, ys, rfl, sl1, dy, nzy, hvy, hly, f1⟩; have HVY := Lib.hid hvy; clear hvy nzy)
    | (go_at_call 68; refine (zzIn_any _ ys _ sl1 (by omega)).mono ?_; rintro e w2 ⟨b2, rfl, row2, hb2, f2⟩)
    | (go_at_call 69; refine (nbit_any b2 _ ys k _ row2 dy (by omega) hk).mono ?_; rw [HVY.out, HE.out]; rintro e w3 ⟨rfl, rfl⟩)
    | (go_at_call 51; go_in))
  go_ret
  exact ⟨rfl, f1.t f2⟩
set_option maxRecDepth 100000 in
set_option maxHeartbeats 2000000 in
theorem law_FnBit (v : Value) (xs : List Int) (i : Int) (w : World) (hx : Sl .u64 w v xs) (hd : DG 18446744073709551616 xs) (i0 : 0 ≤ i) (i1 : i < 65536) :
    Calls Try.prog 8 #[v, .int .u16 i] w fun e w' => e = .returned (.bool true) ∧ Fr [] w w' := by
  obtain ⟨k, hk⟩ : ∃ k : Nat, (k : Int) = i := ⟨i.toNat, by omega⟩
  have hk2 : k < 65536 := by omega
  have HK := Lib.hid hk
  clear hk
  have HX := Lib.hid hx
  have HD := Lib.hid hd
  obtain ⟨A, cap, rfl, hlc, hm, hs⟩ := hx
  unfold maxLen at hm
  clear hs hd
  by_cases h1 : 2147483647 < xs.length
  · go_enter Try.func8, Try.ntmps8
    go_wp2_with fail
    go_ret
    exact ⟨rfl, Fr.refl _ _⟩
  by_cases h2 : xs.length ≤ 260
  case neg =>
    go_enter Try.func8, Try.ntmps8
    go_wp2_with (go_at_call 22; refine (few1_no 260 A _ _ _ _ (by omega) (by omega) (by omega)).mono ?_; rintro e w1 ⟨rfl, rfl⟩)
    go_ret
    exact ⟨rfl, (Fr.refl _ _).alloc _⟩
  have f0 : Fr [] w (w.alloc (.cells #[.slice A xs.length cap] 35)) := (Fr.refl _ _).alloc _
  have C1 := Lib.hid (implBit_any _ xs k _ (HX.out.fr0 f0) HD.out (by omega) (by omega))
  obtain ⟨d, hd⟩ : ∃ d, val 18446744073709551616 xs / 2 ^ k % 2 = d := ⟨_, rfl⟩
  have hd2 : d = 0 ∨ d = 1 := by omega
  have HE := Lib.hid hd
  rw [hd, HK.out] at C1
  clear hd
  go_enter Try.func8, Try.ntmps8
  rcases hd2 with rfl | rfl <;>
  (go_wp2_with (first
    | (go_at_call 22; refine (few1_yes 260 A _ _ _ _ (by omega) h2).mono ?_; rintro e w1 ⟨rfl, rfl⟩)
    | (go_at_call 29; refine (Hid.out C1).mono ?_; clear C1; rintro e w2 ⟨rfl, f2⟩)
    | (go_at_call 25; refine (of_any _ xs _ ((HX.out.fr0 f0).fr0 f2) HD.out (by omega)).mono ?_; rintro e w3 ⟨v3, rfl, sn3, f3⟩)
    | (go_at_call 30; refine (HK.out ▸ has_any _ _ k _ sn3 (by omega)).mono ?_; rw [HE.out]; rintro e w4 ⟨rfl, rfl⟩)
    | (go_at_call 29; refine (implBit_any _ [1] 0 _ (row1 _ _ _ _) (DG.cons (by omega) (by omega) (DG.nil _)) (by simp) (by omega)).mono ?_; rw [show val 18446744073709551616 [1] / 2 ^ 0 % 2 = 1 by decide]; rintro e w5 ⟨rfl, f5⟩))
   go_ret
   exact ⟨rfl, ((f0.t f2).t f3).t (Fr.trans ((Fr.refl _ _).alloc _) f5 (by simp))⟩)
end Go.Proofs.Ytnopbmfdjicnoaa
