/-
  How many bits a number has, how many noughts are below, whether it is a power of 2: nat.bitLen, trailingZeroBits, isPow2. Conditions: the table of math/bits lies in its variable; what is read can be read.
-/
import Derived.Test.YtknokndpeneogaaDoorTz
import Derived.Test.YtknokndpeneogaaDoorBit
import Derived.Test.YtknokndpeneogaaDoorLen
set_option linter.unusedSimpArgs false
set_option linter.unusedVariables false
namespace Go.Big
theorem or_smear {a b : Int} {L : Nat} (ha0 : 0 ≤ a) (ha : a < 2 ^ L) (hb0 : 0 ≤ b) (hb : b < 2 ^ L) (hL : L ≤ 64) : a ≤ bits .or .u64 a b ∧ bits .or .u64 a b < 2 ^ L := by
  obtain ⟨m, rfl⟩ := Int.eq_ofNat_of_zero_le ha0
  obtain ⟨n, rfl⟩ := Int.eq_ofNat_of_zero_le hb0
  have h64 := pow_le_pow_ (B := 2) (by omega) hL
  have e64 : (2 : Int) ^ 64 = 18446744073709551616 := rfl
  have e : ((2 ^ L : Nat) : Int) = (2 : Int) ^ L := by simp
  rw [← e] at ha hb h64 ⊢
  rw [u64_or_nat m n (by omega) (by omega)]
  have h1 : m ||| n < 2 ^ L := Nat.or_lt_two_pow (by omega) (by omega)
  have h2 : m ≤ m ||| n := Nat.left_le_or
  omega
theorem half_lt {a : Int} {L : Nat} (h0 : 0 ≤ a) (h : a < 2 ^ L) (k : Int) (hk : 0 < k) : 0 ≤ a / k ∧ a / k < 2 ^ L := by
  have := Int.ediv_le_self k h0
  exact ⟨Int.ediv_nonneg h0 (by omega), by omega⟩
/-- the highest word tells the bits -/
theorem IsLen.words {ds : List Int} (hd : DG 18446744073709551616 ds) {t : Int} {i j : Nat} (hi : ds.length = i + 1) (ht : t = ds.getD i 0) (hj : IsLen t j) (h1 : 1 ≤ j) : IsLen (val 18446744073709551616 ds) (64 * i + j) := by
  right
  rcases hj with ⟨_, h⟩ | ⟨_, h2, h3⟩
  · omega
  have hv := val_take_succ' 18446744073709551616 ds i
  rw [← hi, List.take_length, ← ht] at hv
  have b1 := val_nonneg (by omega) (hd.take i)
  have b2 := val_lt (by omega) (hd.take i)
  rw [List.length_take, Nat.min_eq_left (by omega)] at b2
  have e16 : (2 : Int) ^ (64 * i) = 18446744073709551616 ^ i := by rw [Int.pow_mul]; rfl
  have e1 : (2 : Int) ^ (64 * i + j) = 18446744073709551616 ^ i * 2 ^ j := by rw [Int.pow_add, e16]
  have e2 : (2 : Int) ^ (64 * i + j - 1) = 18446744073709551616 ^ i * 2 ^ (j - 1) := by rw [show 64 * i + j - 1 = 64 * i + (j - 1) by omega, Int.pow_add, e16]
  have p := pow_pos_ (B := 18446744073709551616) (by omega) i
  have m1 := Int.mul_le_mul_of_nonneg_left h2 (Int.le_of_lt p)
  have m2 := Int.mul_le_mul_of_nonneg_left (show t + 1 ≤ 2 ^ j by omega) (Int.le_of_lt p)
  rw [Int.mul_add, Int.mul_one] at m2
  refine ⟨by omega, ?_, ?_⟩
  · rw [e2, hv]; omega
  · rw [e1, hv]; omega
theorem first_nz {xs : List Int} (h : ∃ i, i < xs.length ∧ xs.getD i 0 ≠ 0) : ∃ i, i < xs.length ∧ xs.getD i 0 ≠ 0 ∧ ∀ k, k < i → xs.getD k 0 = 0 := by
  obtain ⟨i, hi, hn⟩ := h
  induction i using Nat.strongRecOn with
  | _ i ih =>
    by_cases hex : ∃ k, k < i ∧ xs.getD k 0 ≠ 0
    · obtain ⟨k, hk, hkn⟩ := hex
      exact ih k hk (by omega) hkn
    · refine ⟨i, hi, hn, fun k hk => ?_⟩
      by_cases e : xs.getD k 0 = 0
      · exact e
      · exact absurd ⟨k, hk, e⟩ hex
end Go.Big
namespace Go.Proofs.YtknokndpeneogaaDoor
open Go.Big Go.RowKit
set_option maxRecDepth 100000 in
set_option maxHeartbeats 1000000 in
theorem bitLen_any (v : Value) (X : Int) (w : World) (h : SW w v X) (hX : X < BIG) : Calls Tryd.prog 71 #[v] w (RetLen X w) := by
  obtain ⟨xs, sl, dx, zx, rfl⟩ := h
  have hl := len_BIG64 dx zx hX
  obtain ⟨A, cap, rfl, hlc, hm, hs⟩ := sl
  unfold maxLen at hm
  by_cases h0 : xs.length = 0
  · have hx : xs = [] := List.eq_nil_of_length_eq_zero h0
    subst hx
    simp only [List.length_nil] at *
    clear hs dx zx hX h0
    go_enter Tryd.func71, Tryd.ntmps71
    go_wp2_with fail
    go_ret
    exact ⟨0, rfl, .inl ⟨rfl, rfl⟩, by omega, rfl⟩
  obtain ⟨i, hi⟩ : ∃ i, xs.length = i + 1 := ⟨xs.length - 1, by omega⟩
  obtain ⟨b, o, rfl, _, hs⟩ := hs (by omega)
  have c0 := hs i (by omega)
  obtain ⟨x, hx⟩ : ∃ x, x = xs.getD i 0 := ⟨_, rfl⟩
  obtain ⟨hx0, hx1⟩ := dx.getD (by omega) i
  rw [← hx] at c0 hx0 hx1
  have hxn : x ≠ 0 := by
    rcases zx with h | h
    · subst h; simp at hi
    · rwa [hi, Nat.add_sub_cancel, ← hx] at h
  have hL := isLen_word x hx0 hx1
  obtain ⟨L, hLe⟩ : ∃ L, L = Lib.bitLen x.toNat := ⟨_, rfl⟩
  rw [← hLe] at hL
  have hL1 : 1 ≤ L := by rcases hL with ⟨h, _⟩ | ⟨h, _⟩ <;> omega
  have hLx : 2 ^ (L - 1) ≤ x ∧ x < 2 ^ L := by rcases hL with ⟨h, _⟩ | ⟨_, h⟩ <;> omega
  have hL64 : L ≤ 64 := by
    rcases Nat.lt_or_ge 64 L with h | h
    · have := pow_le_pow_ (B := 2) (by omega) (show 64 ≤ L - 1 by omega)
      have e64 : (2 : Int) ^ 64 = 18446744073709551616 := rfl
      omega
    · exact h
  have hp64 := pow_le_pow_ (B := 2) (by omega) hL64
  have e64 : (2 : Int) ^ 64 = 18446744073709551616 := rfl
  rw [e64] at hp64
  have st : ∀ (a k : Int), x ≤ a → a < 2 ^ L → 0 < k → ∃ t, bits .or .u64 a (a / k) = t ∧ x ≤ t ∧ t < 2 ^ L := fun a k h1 h2 h3 => by
    have hh := half_lt (show 0 ≤ a by omega) h2 k h3
    have := or_smear (show 0 ≤ a by omega) h2 hh.1 hh.2 hL64
    exact ⟨_, rfl, by omega, this.2⟩
  obtain ⟨t1, q1, r1, s1⟩ := st x 2 (Int.le_refl _) hLx.2 (by omega)
  obtain ⟨t2, q2, r2, s2⟩ := st t1 4 r1 s1 (by omega)
  obtain ⟨t3, q3, r3, s3⟩ := st t2 16 r2 s2 (by omega)
  obtain ⟨t4, q4, r4, s4⟩ := st t3 256 r3 s3 (by omega)
  obtain ⟨t5, q5, r5, s5⟩ := st t4 65536 r4 s4 (by omega)
  obtain ⟨t6, q6, r6, s6⟩ := st t5 4294967296 r5 s5 (by omega)
  have hd6 : t5 / 65536 / 65536 = t5 / 4294967296 := by omega
  rw [← hd6] at q6
  have hL6 : IsLen t6 (Lib.bitLen t6.toNat) := isLen_word t6 (by omega) (by omega)
  have hLL : Lib.bitLen t6.toNat = L := hL6.unique (.inr ⟨hL1, by omega, s6⟩)
  have CB := Lib.hid (blen_any t6 w (by omega) (by omega))
  rw [hLL] at CB
  have FIN := Lib.hid (IsLen.words dx hi hx hL hL1)
  have hi1 : (xs.length : Int) - 1 = (i : Int) := by omega
  have hic : (i : Int) < (xs.length : Int) := by omega
  have b1 : 0 ≤ t1 ∧ t1 < 18446744073709551616 := by omega
  have b2 : 0 ≤ t2 ∧ t2 < 18446744073709551616 := by omega
  have b3 : 0 ≤ t3 ∧ t3 < 18446744073709551616 := by omega
  have b4 : 0 ≤ t4 ∧ t4 < 18446744073709551616 := by omega
  have b5 : 0 ≤ t5 ∧ t5 < 18446744073709551616 := by omega
  obtain ⟨b10, b11⟩ := b1
  obtain ⟨b20, b21⟩ := b2
  obtain ⟨b30, b31⟩ := b3
  obtain ⟨b40, b41⟩ := b4
  obtain ⟨b50, b51⟩ := b5
  clear hs dx zx hX h0 hi hx hxn hL hLe hL1 hLx hp64 e64 st r1 s1 r2 s2 r3 s3 r4 s4 r5 s5 r6 s6 hd6 hL6 hLL
  go_enter Tryd.func71, Tryd.ntmps71
  go_wp2_with (go_at_call 89; refine (Hid.out CB).mono ?_; rintro e w1 ⟨rfl, rfl⟩)
  go_ret
  exact ⟨64 * i + L, congrArg Ending.returned (congrArg (Value.int .i64) (show (i : Int) * 64 + (L : Int) = ((64 * i + L : Nat) : Int) by omega)), FIN.out, by omega, rfl⟩
/-- where the lowest bit is -/
theorem low_word {xs : List Int} (dx : DG 18446744073709551616 xs) (zx : NZ xs) (hne : xs ≠ []) : ∃ (i : Nat) (y : Nat), i < xs.length ∧ (y : Int) = xs.getD i 0 ∧ y ≠ 0 ∧ y < 18446744073709551616 ∧ (∀ k, k < i → xs.getD k 0 = 0) ∧ HasTz (val 18446744073709551616 xs) (64 * i + Lib.ctz 64 y) ∧ Lib.ctz 64 y < 64 := by
  have hp : 0 < xs.length := List.length_pos_iff.2 hne
  obtain ⟨i, hi, hn, hz⟩ := first_nz ⟨xs.length - 1, by omega, zx.resolve_left hne⟩
  obtain ⟨h0, h1⟩ := dx.getD (by omega) i
  have e : ((xs.getD i 0).toNat : Int) = xs.getD i 0 := by omega
  obtain ⟨c1, c2⟩ := HasTz.word (x := (xs.getD i 0).toNat) (by omega) (by omega)
  exact ⟨i, (xs.getD i 0).toNat, hi, e, by omega, by omega, hz, HasTz.words dx hi hz e c1 c2, c2⟩
set_option maxRecDepth 100000 in
set_option maxHeartbeats 1000000 in
theorem trail_any (v : Value) (X : Int) (w : World) (h : SW w v X) (hX : X < BIG) (hT : TabW w) :
    Calls Tryd.prog 72 #[v] w fun e w' => ∃ t : Nat, e = .returned (.int .u64 (t : Int)) ∧ (X = 0 ∧ t = 0 ∨ HasTz X t) ∧ t ≤ 64000000 ∧ w = w' := by
  obtain ⟨xs, sl, dx, zx, rfl⟩ := h
  have hl := len_BIG64 dx zx hX
  obtain ⟨A, cap, rfl, hlc, hm, hs⟩ := sl
  unfold maxLen at hm
  by_cases h0 : xs.length = 0
  · have hx : xs = [] := List.eq_nil_of_length_eq_zero h0
    subst hx
    simp only [List.length_nil] at *
    clear hs dx zx hX h0 hT
    go_enter Tryd.func72, Tryd.ntmps72
    go_wp2_with fail
    go_ret
    exact ⟨0, rfl, .inl ⟨rfl, rfl⟩, by omega, rfl⟩
  obtain ⟨i, y, hi, hy, hy0, hy1, hz, ht, hc⟩ := low_word dx zx (by intro e; subst e; simp at h0)
  obtain ⟨b, o, rfl, _, hs⟩ := hs (by omega)
  obtain ⟨N, hN⟩ : ∃ N, N = xs.length := ⟨_, rfl⟩
  rw [← hN] at hlc hi hl h0 ⊢
  have hN0 : ((N : Int) == 0) = false := by rw [beq_eq_false_iff_ne]; omega
  have CT := Lib.hid (tz_any y w hy0 hy1 hT)
  obtain ⟨c, hce⟩ : ∃ c, c = Lib.ctz 64 y := ⟨_, rfl⟩
  rw [← hce] at CT ht hc
  have HS := Lib.hid hs
  have HZ := Lib.hid hz
  have HTZ := Lib.hid ht
  have HN := Lib.hid hN
  have HY := Lib.hid hy
  clear hs dx zx hX hT hN hy hz ht hce
  go_enter Tryd.func72, Tryd.ntmps72
  go_wp2_with fail
  go_loopg [3] i (fun g iv wr => ∃ k : Nat, k ≤ i ∧ g = i - k ∧ iv = .int .u64 (k : Int) ∧ w = wr)
  case atStart => exact ⟨0, by omega, rfl, rfl, rfl⟩
  case round =>
    obtain ⟨k, hk, rfl, rfl, rfl⟩ := hrel
    have ck := HS.out k (by rw [← HN.out]; omega)
    have hkN : (k : Int) < (N : Int) := by omega
    by_cases hki : k < i
    · rw [HZ.out k hki] at ck
      go_wp2_with fail
      go_roundg (i - (k + 1))
      case measure => omega
      case rel => exact ⟨k + 1, by omega, rfl, congrArg (Value.int .u64) (by omega), rfl⟩
    · obtain rfl : k = i := by omega
      rw [← HY.out] at ck
      have hyb : ((y : Int) == 0) = false := by rw [beq_eq_false_iff_ne]; omega
      go_wp2_with (go_at_call 87; refine (Hid.out CT).mono ?_; rintro e w1 ⟨rfl, rfl⟩)
      go_ret
      exact ⟨64 * k + c, congrArg Ending.returned (congrArg (Value.int .u64) (show (k : Int) * 64 + (c : Int) = ((64 * k + c : Nat) : Int) by omega)), .inr HTZ.out, by omega, rfl⟩
end Go.Proofs.YtknokndpeneogaaDoor
