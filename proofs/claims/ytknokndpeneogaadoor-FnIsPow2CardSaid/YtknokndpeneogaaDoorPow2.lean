/-
  Whether a number is a power of 2: nat.isPow2, the thin package's IsPow2, and the walk of the law FnIsPow2. Conditions: the table of math/bits lies in its variable; the words can be read.
-/
import Derived.Test.YtknokndpeneogaaDoorBlenL
import Derived.Test.YtknokndpeneogaaDoorDivM
import Derived.Test.YtknokndpeneogaaDoorSpecD
set_option linter.unusedSimpArgs false
set_option linter.unusedVariables false
namespace Go.Big
theorem tz_pow {s t : Nat} (h : HasTz (2 ^ s) t) : s = t := by
  obtain ⟨b1, b2, _⟩ := h.bit
  rcases Nat.lt_trichotomy s t with hlt | he | hgt
  · have := b2 s hlt
    rw [Int.ediv_self (by have := pow_pos_ (B := 2) (by omega) s; omega)] at this
    omega
  · exact he
  · obtain ⟨d, rfl⟩ : ∃ d, s = t + (d + 1) := ⟨s - t - 1, by omega⟩
    have hp := pow_pos_ (B := 2) (by omega) t
    rw [Int.pow_add, Int.mul_ediv_cancel_left _ (by omega), Int.pow_succ] at b1
    omega
/-- a number that is one word above noughts -/
theorem val_top_word {xs : List Int} {i : Nat} (hl : xs.length = i + 1) (hz : ∀ k, k < i → xs.getD k 0 = 0) : val 18446744073709551616 xs = 18446744073709551616 ^ i * xs.getD i 0 := by
  have e := val_take_succ' 18446744073709551616 xs i
  rw [← hl, List.take_length] at e
  have e2 : val 18446744073709551616 (xs.take i) = 0 := val_zeros _ (fun x hx => by
    obtain ⟨n, hn, rfl⟩ := List.mem_iff_getElem.1 hx
    rw [List.length_take] at hn
    have := hz n (by omega)
    rw [getD_in (by omega)] at this
    simpa using this)
  omega
end Go.Big
namespace Go.Proofs.YtknokndpeneogaaDoor
open Go.Big Go.RowKit
def RetP2 (X : Int) (t : Nat) (w : World) (e : Ending) (w' : World) : Prop := (X = 2 ^ t ∧ e = .returned (.tuple #[.int .u64 (t : Int), .bool true]) ∨ X ≠ 2 ^ t ∧ e = .returned (.tuple #[.int .u64 0, .bool false])) ∧ Fr [] w w'
set_option maxRecDepth 100000 in
set_option maxHeartbeats 2000000 in
theorem isPow2_any (v : Value) (X : Int) (w : World) (h : SW w v X) (hX : X < BIG) (hX0 : 0 < X) (hT : TabW w) :
    Calls Tryd.prog 69 #[v] w fun e w' => ∃ t : Nat, HasTz X t ∧ t ≤ 64000000 ∧ RetP2 X t w e w' := by
  obtain ⟨xs, sl, dx, zx, rfl⟩ := h
  have hl := len_BIG64 dx zx hX
  obtain ⟨A, cap, rfl, hlc, hm, hs⟩ := sl
  unfold maxLen at hm
  have hne : xs ≠ [] := by intro e; subst e; simp [val_nil] at hX0
  have hxp : 0 < xs.length := List.length_pos_iff.2 hne
  obtain ⟨i, y, hi, hy, hy0, hy1, hz, ht, hc⟩ := low_word dx zx hne
  obtain ⟨b, o, rfl, _, hs⟩ := hs (by omega)
  obtain ⟨N, hN⟩ : ∃ N, N = xs.length := ⟨_, rfl⟩
  obtain ⟨N1, hN1⟩ : ∃ N1, N1 = N - 1 := ⟨_, rfl⟩
  have CT := Lib.hid (fun W (f : Fr [] w W) => tz_any y W hy0 hy1 (hT.fr0 f))
  obtain ⟨m, hye, _⟩ := Lib.ctzFrom_spec 64 y (by omega) (by simpa using hy1)
  have hce : Lib.ctz 64 y = Lib.ctzFrom 64 y := by unfold Lib.ctz; rw [if_neg hy0]
  rw [← hce] at hye
  obtain ⟨c, hcc⟩ : ∃ c, c = Lib.ctz 64 y := ⟨_, rfl⟩
  rw [← hcc] at CT ht hc hye
  have hwy : IntKind.u64.wrap ((y : Int) - 1) = (y : Int) - 1 := by rw [IntKind.wrap_u64]; clear CT hye ht hz hs hy hc; omega
  -- what y & (y-1) is
  obtain ⟨z, hze⟩ : ∃ z : Int, z = bits .and .u64 (y : Int) ((y : Int) - 1) := ⟨_, rfl⟩
  have hz2 : z = ((2 ^ c * (2 * m) : Nat) : Int) := by
    rw [hze, show (y : Int) - 1 = ((y - 1 : Nat) : Int) by omega, u64_and_nat _ _ (by omega) (by omega)]
    have e := and_pred (c := c) (m := m)
    rw [← hye] at e
    rw [e]
  -- when it is a power
  have hpow : val 18446744073709551616 xs = 2 ^ (64 * i + c) ↔ i = N1 ∧ m = 0 := by
    have p64 : (2 : Int) ^ (64 * i) = 18446744073709551616 ^ i := by rw [Int.pow_mul]; rfl
    have hpi := pow_pos_ (B := 18446744073709551616) (by omega) i
    constructor
    · intro e
      have hi1 : i = N1 := by
        rcases Nat.lt_or_ge i N1 with hlt | hge
        · exfalso
          have h1 := val_pos (by omega) dx zx hne
          have h2 := pow_le_pow_ (B := 18446744073709551616) (by omega) (show i + 1 ≤ xs.length - 1 by omega)
          rw [Int.pow_succ] at h2
          rw [Int.pow_add, p64] at e
          have h3 := pow_le_pow_ (B := 2) (by omega) (show c ≤ 63 by omega)
          have h4 : (18446744073709551616 : Int) ^ i * 2 ^ c ≤ 18446744073709551616 ^ i * 2 ^ 63 := Int.mul_le_mul_of_nonneg_left h3 (by omega)
          rw [show (2 : Int) ^ 63 = 9223372036854775808 from rfl] at h4
          omega
        · omega
      refine ⟨hi1, ?_⟩
      have e2 := val_top_word (i := i) (by omega) hz
      rw [← hy, e, Int.pow_add, p64] at e2
      have e3 : (2 : Int) ^ c = (y : Int) := Int.eq_of_mul_eq_mul_left (by omega) e2
      have e4 : ((2 ^ c : Nat) : Int) = (2 : Int) ^ c := by simp
      rw [← e4] at e3
      have e5 : 2 ^ c = 2 ^ c * (2 * m + 1) := by omega
      have hp := Nat.two_pow_pos c
      rcases Nat.eq_zero_or_pos m with h | h
      · exact h
      · exfalso
        have : 2 ^ c * 2 ≤ 2 ^ c * (2 * m + 1) := Nat.mul_le_mul_left _ (by omega)
        omega
    · rintro ⟨hi1, hm0⟩
      have e2 := val_top_word (i := i) (by omega) hz
      rw [← hy, hye, hm0] at e2
      rw [e2, Int.pow_add, p64]
      simp
  obtain ⟨X, hXe⟩ : ∃ X, X = val 18446744073709551616 xs := ⟨_, rfl⟩
  rw [← hXe] at ht hpow ⊢
  rw [← hN] at hlc hi hl hxp ⊢
  have a1 : (N : Int) - 1 = (N1 : Int) := by omega
  have hwN : IntKind.u64.wrap (N : Int) = (N : Int) := by rw [IntKind.wrap_u64]; omega
  have hwN1 : IntKind.u64.wrap (N1 : Int) = (N1 : Int) := by rw [IntKind.wrap_u64]; omega
  have hze2 : bits .and .u64 (y : Int) ((y : Int) - 1) = z := hze.symm
  have HS := Lib.hid hs
  have HZ := Lib.hid hz
  have HTZ := Lib.hid ht
  have HN := Lib.hid hN
  have HY := Lib.hid hy
  have HZ2 := Lib.hid hz2
  have HP := Lib.hid hpow
  clear hs dx zx hX hT hN hy hz ht hce hcc hye hze hz2 hpow hXe hX0 hN1
  go_enter Tryd.func69, Tryd.ntmps69
  go_wp2_with fail
  go_loopg [4] i (fun g iv wr => ∃ k : Nat, k ≤ i ∧ g = i - k ∧ iv = .int .u64 (k : Int) ∧ w = wr)
  case atStart => exact ⟨0, by omega, rfl, rfl, rfl⟩
  case round =>
    obtain ⟨k, hk, rfl, rfl, rfl⟩ := hrel
    have ck := HS.out k (by rw [← HN.out]; omega)
    have hkN : (k : Int) < (N : Int) := by omega
    by_cases hki : k < i
    · rw [HZ.out k hki] at ck
      go_wp2_with fail
      go_roundg (i - (k + 1))
      case measure => omega
      case rel => exact ⟨k + 1, by omega, rfl, congrArg (Value.int .u64) (by omega), rfl⟩
    · obtain rfl : k = i := by omega
      rw [← HY.out] at ck
      have hyb : ((y : Int) == 0) = false := by rw [beq_eq_false_iff_ne]; omega
      by_cases hkN1 : k = N1
      · have hb1 : ((k : Int) == (N1 : Int)) = true := by simp [hkN1]
        have HK := Lib.hid hkN1
        clear hkN1
        by_cases hm0 : m = 0
        · have hz0 : z = 0 := by rw [HZ2.out, hm0]; simp
          have hzb : (z == 0) = true := by simp [hz0]
          have HM := Lib.hid hm0
          clear hm0 hz0
          go_wp2_with fail
          go_quiet (fail)
          go_wp2_with (go_at_call 87; refine (CT.out _ ((Fr.refl _ _).drewN _)).mono ?_; rintro e w1 ⟨rfl, rfl⟩)
          go_ret2
          refine ⟨64 * k + c, HTZ.out, by omega, .inl ⟨HP.out.2 ⟨HK.out, HM.out⟩, congrArg Ending.returned ?_⟩, (Fr.refl _ _).drewN _⟩
          have e : (k : Int) * 64 + (c : Int) = ((64 * k + c : Nat) : Int) := by omega
          rw [← e]; rfl
        · have hz0 : z ≠ 0 := by
            rw [HZ2.out]
            have hp := Nat.two_pow_pos c
            have : 0 < 2 ^ c * (2 * m) := Nat.mul_pos hp (by omega)
            omega
          have hzb : (z == 0) = false := by rw [beq_eq_false_iff_ne]; exact hz0
          have HM := Lib.hid hm0
          clear hm0 hz0
          go_wp2_with fail
          go_quiet (fail)
          go_wp2_with fail
          go_ret2
          exact ⟨64 * k + c, HTZ.out, by omega, .inr ⟨fun e => HM.out (HP.out.1 e).2, rfl⟩, (Fr.refl _ _).drewN _⟩
      · have hb1 : ((k : Int) == (N1 : Int)) = false := by rw [beq_eq_false_iff_ne]; omega
        have HK := Lib.hid hkN1
        clear hkN1
        go_wp2_with fail
        go_quiet (fail)
        go_wp2_with fail
        go_ret2
        exact ⟨64 * k + c, HTZ.out, by omega, .inr ⟨fun e => HK.out (HP.out.1 e).1, rfl⟩, (Fr.refl _ _).drewN _⟩
set_option maxRecDepth 100000 in
set_option maxHeartbeats 1000000 in
theorem implIsPow2_any (v : Value) (xs : List Int) (w : World) (hx : Sl .u64 w v xs) (hd : DG 18446744073709551616 xs) (hl : xs.length ≤ 1000000) (h0 : 0 < val 18446744073709551616 xs) (hT : TabW w) :
    Calls Tryd.prog 20 #[v] w fun e w' => ∃ t : Nat, HasTz (val 18446744073709551616 xs) t ∧ t ≤ 64000000 ∧ RetP2 (val 18446744073709551616 xs) t w e w' := by
  have HX := Lib.hid hx
  have HD := Lib.hid hd
  have HB := words_BIG hd hl
  obtain ⟨X, hX⟩ : ∃ X, val 18446744073709551616 xs = X := ⟨_, rfl⟩
  have HV := Lib.hid hX
  rw [hX] at HB h0 ⊢
  have C := Lib.hid (fun v W (f : Fr [] w W) (h : SW W v X) => isPow2_any v X W h HB h0 (hT.fr0 f))
  clear hx hd HB hX hT h0
  go_enter Tryd.func20, Tryd.ntmps20
  go_wp2_with (first
    | (go_at_call 48; refine (normed_any _ xs _ HX.out HD.out hl).mono ?_; rintro e w1 ⟨v1, ys, rfl, sl1, dy, nzy, hvy, hly, f1⟩; have HVY := Lib.hid hvy; clear hvy)
    | (go_at_call 68; refine (zzIn_any _ ys _ sl1 (by omega)).mono ?_; rintro e w2 ⟨b2, rfl, row2, hb2, f2⟩)
    | (go_at_call 69; have sw2 := SW.mk row2 dy nzy (by omega); rw [HVY.out, HV.out] at sw2; refine (C.out _ _ (f1.t f2) sw2).mono ?_; clear sw2; rintro e w3 ⟨t, ht, ht9, hr, f3⟩; have HT := Lib.hid ht; clear ht; rcases hr with ⟨hp, rfl⟩ | ⟨hp, rfl⟩ <;> (have HP := Lib.hid hp; clear hp))
    | (go_at_call 47; go_in))
  · go_ret2
    exact ⟨t, HT.out, ht9, .inl ⟨HP.out, rfl⟩, (f1.t f2).t f3⟩
  · go_ret2
    exact ⟨t, HT.out, ht9, .inr ⟨HP.out, rfl⟩, (f1.t f2).t f3⟩
theorem cmpI_ne {a b : Int} (h : a ≠ b) : ∃ c, cmpI a b = c ∧ (c == 0) = false := by
  rcases (show a < b ∨ b < a by omega) with h | h
  · exact ⟨-1, cmpI_lt h, rfl⟩
  · exact ⟨1, cmpI_gt h, rfl⟩
set_option maxRecDepth 100000 in
set_option maxHeartbeats 2000000 in
theorem law_FnIsPow2 (v : Value) (xs : List Int) (w : World) (hx : Sl .u64 w v xs) (hd : DG 18446744073709551616 xs) (hT : TabW w) :
    Calls Tryd.prog 3 #[v] w fun e w' => e = .returned (.bool true) ∧ Fr [] w w' := by
  have HX := Lib.hid hx
  have HD := Lib.hid hd
  have HT := Lib.hid hT
  obtain ⟨A, cap, rfl, hlc, hm, hs⟩ := hx
  unfold maxLen at hm
  clear hs hd hT
  by_cases h1 : 2147483647 < xs.length
  · go_enter Tryd.func3, Tryd.ntmps3
    go_wp2_with fail
    go_ret
    exact ⟨rfl, Fr.refl _ _⟩
  by_cases h2 : xs.length ≤ 260
  case neg =>
    go_enter Tryd.func3, Tryd.ntmps3
    go_wp2_with (go_at_call 17; refine (few1_no 260 A _ _ _ _ (by omega) (by omega) (by omega)).mono ?_; rintro e w1 ⟨rfl, rfl⟩)
    go_ret
    exact ⟨rfl, (Fr.refl _ _).alloc _⟩
  have f0 : Fr [] w (w.alloc (.cells #[.slice A xs.length cap] 22)) := (Fr.refl _ _).alloc _
  have h0 := val_nonneg (by omega) HD.out
  have hB := words_BIG HD.out (show xs.length ≤ 1000000 by omega)
  obtain ⟨L, hL⟩ := isLen_ex h0
  have hv := val_lt_of_len (B := 18446744073709551616) (by omega) HD.out h2
  have CO := Lib.hid (fun W (f : Fr [] w W) => of_any _ xs W (HX.out.fr0 f) HD.out (by omega))
  have CP := fun W (f : Fr [] w W) (h : 0 < val 18446744073709551616 xs) => implIsPow2_any _ xs W (HX.out.fr0 f) HD.out (by omega) h (HT.out.fr0 f)
  obtain ⟨X, hX⟩ : ∃ X, X = val 18446744073709551616 xs := ⟨_, rfl⟩
  simp only [← hX] at CO CP
  rw [← hX] at h0 hB hL hv
  clear hX
  have CB := Lib.hid (fun va W (h : SN W va X) => bits_at va X L W h hB hL)
  have C1 := Lib.hid (fun W (hW : TabW W) => implIsPow2_any _ [1] (W.alloc (.cells #[.int .u64 1] 28)) (row1 W _ 28 _) (DG.cons (by omega) (by omega) (DG.nil _)) (by simp) (by decide) (hW.fr0 ((Fr.refl _ _).alloc _)))
  by_cases hX0 : X = 0
  · have hL0 : L = 0 := by rw [hX0] at hL; exact hL.unique (.inl ⟨rfl, rfl⟩)
    rw [hL0] at CB
    clear hL0 hX0 h0 hB hL hv CP C1
    go_enter Tryd.func3, Tryd.ntmps3
    go_wp2_with (first
      | (go_at_call 17; refine (few1_yes 260 A _ _ _ _ (by omega) h2).mono ?_; rintro e w1 ⟨rfl, rfl⟩)
      | (go_at_call 19; refine (CO.out _ f0).mono ?_; rintro e w2 ⟨v2, rfl, sn2, f2⟩)
      | (go_at_call 18; refine (CB.out _ _ sn2).mono ?_; rintro e w3 ⟨rfl, rfl⟩))
    go_ret
    exact ⟨rfl, f0.t f2⟩
  have hXp : 0 < X := by omega
  have hL1 : 1 ≤ L ∧ 2 ^ (L - 1) ≤ X ∧ X < 2 ^ L := by rcases hL with ⟨h, _⟩ | h; omega; exact h
  have hL9 : L ≤ 20000 := by
    rcases Nat.lt_or_ge 20000 L with h | h
    · have a := pow_le_pow_ (B := 2) (by omega) (show 64 * 260 ≤ L - 1 by omega)
      have e : (18446744073709551616 : Int) ^ 260 = 2 ^ (64 * 260) := by rw [Int.pow_mul]; rfl
      rw [e] at hv
      generalize (2 : Int) ^ (64 * 260) = P at *
      omega
    · exact h
  obtain ⟨L1, hL1e⟩ : ∃ L1, L1 = L - 1 := ⟨_, rfl⟩
  have a1 : (L : Int) - 1 = (L1 : Int) := by omega
  have hL0 : (0 : Int) < (L : Int) := by omega
  have hLb : ((L : Int) == 0) = false := by rw [beq_eq_false_iff_ne]; omega
  have CS := Lib.hid (fun W => sbit_any L1 W (by omega))
  have CP2 := Lib.hid (fun W (f : Fr [] w W) => CP W f hXp)
  have C1' : ∀ W, TabW W → Calls Tryd.prog 20 #[.slice (some ⟨W.heap.size, 0, none⟩) 1 1] (W.alloc (.cells #[.int .u64 1] 28)) fun e w' => e = .returned (.tuple #[.int .u64 0, .bool true]) ∧ Fr [] (W.alloc (.cells #[.int .u64 1] 28)) w' := fun W hW => (C1.out W hW).mono fun e w' h => by
    obtain ⟨t, ht, _, hr, hf⟩ := h
    have h1 : val 18446744073709551616 [1] = 2 ^ 0 := by decide
    rw [h1] at ht hr
    obtain rfl := tz_pow ht
    rcases hr with ⟨_, rfl⟩ | ⟨h, _⟩
    · exact ⟨rfl, hf⟩
    · exact absurd rfl h
  have C1 := Lib.hid C1'
  by_cases hp : X = 2 ^ L1
  · have CC := Lib.hid (fun va vb W (h : SN W va X) (h' : SN W vb (2 ^ L1)) => cmp_same va vb X W h (by rw [hp]; exact h'))
    have CP3 : ∀ W, Fr [] w W → Calls Tryd.prog 20 #[.slice A xs.length cap] W fun e w' => e = .returned (.tuple #[.int .u64 (L1 : Int), .bool true]) ∧ Fr [] W w' := fun W f => (CP2.out W f).mono fun e w' h => by
      obtain ⟨t, ht, _, hr, hf⟩ := h
      rw [hp] at ht hr
      obtain rfl := tz_pow ht
      rcases hr with ⟨_, rfl⟩ | ⟨h, _⟩
      · exact ⟨rfl, hf⟩
      · exact absurd rfl h
    have CP4 := Lib.hid CP3
    have hwl : IntKind.i64.wrap (L1 : Int) = (L1 : Int) := by rw [IntKind.wrap_i64]; omega
    obtain ⟨P, hP⟩ : ∃ P : Int, P = 2 ^ L1 := ⟨_, rfl⟩
    rw [← hP] at CS
    simp only [← hP] at CC
    have T1 : True := trivial
    clear hp hP CP3 CP2 CP C1' hL1 hL1e hL hv hX0 hXp h0 hB
    go_enter Tryd.func3, Tryd.ntmps3
    go_wp2_with (first
      | (go_at_call 17; refine (few1_yes 260 A _ _ _ _ (by omega) h2).mono ?_; rintro e w1 ⟨rfl, rfl⟩)
      | (go_at_call 19; clear T1; refine (CO.out _ f0).mono ?_; rintro e w2 ⟨v2, rfl, sn2, f2⟩)
      | (go_at_call 19; refine (CO.out _ (f0.t f2)).mono ?_; clear CO; rintro e w3 ⟨v3, rfl, sn3, f3⟩)
      | (go_at_call 20; refine (CP4.out _ ((f0.t f2).t f3)).mono ?_; clear CP4; rintro e w4 ⟨rfl, f4⟩)
      | (go_at_call 18; refine (CB.out _ _ (by first | exact sn2 | exact sn3.fr0 f4 | exact ((sn3.fr0 f4).fr0 f5) | exact (((sn3.fr0 f4).fr0 f5).fr0 f6) | exact ((((sn3.fr0 f4).fr0 f5).fr0 f6).fr0 ((Fr.refl _ _).alloc _)).fr0 f7)).mono ?_; rintro e w9 ⟨rfl, rfl⟩)
      | (go_at_call 22; refine (CS.out _).mono ?_; rintro e w5 ⟨v5, rfl, sn5, f5⟩)
      | (go_at_call 21; refine (CC.out _ _ _ ((sn3.fr0 f4).fr0 f5) sn5).mono ?_; rintro e w6 ⟨rfl, f6⟩)
      | (go_at_call 20; refine (C1.out _ (HT.out.fr0 (((((f0.t f2).t f3).t f4).t f5).t f6))).mono ?_; rintro e w7 ⟨rfl, f7⟩))
    go_ret
    exact ⟨rfl, ((((((f0.t f2).t f3).t f4).t f5).t f6).alloc _).t f7⟩
  · obtain ⟨cc, hcc, hcb⟩ := cmpI_ne hp
    have CC := Lib.hid (fun va vb W (h : SN W va X) (h' : SN W vb (2 ^ L1)) => cmp_at cc va vb X (2 ^ L1) W h h' hcc)
    have CP3 : ∀ W, Fr [] w W → Calls Tryd.prog 20 #[.slice A xs.length cap] W fun e w' => e = .returned (.tuple #[.int .u64 0, .bool false]) ∧ Fr [] W w' := fun W f => (CP2.out W f).mono fun e w' h => by
      obtain ⟨t, ht, _, hr, hf⟩ := h
      rcases hr with ⟨he, _⟩ | ⟨_, rfl⟩
      · exfalso
        have hu : IsLen X (t + 1) := .inr ⟨by omega, by rw [Nat.add_sub_cancel, ← he]; exact Int.le_refl _, by rw [he, Int.pow_succ]; have := pow_pos_ (B := 2) (by omega) t; omega⟩
        have := hL.unique hu
        exact hp (by rw [hL1e, this, Nat.add_sub_cancel]; exact he)
      · exact ⟨rfl, hf⟩
    have CP4 := Lib.hid CP3
    obtain ⟨P, hP⟩ : ∃ P : Int, P = 2 ^ L1 := ⟨_, rfl⟩
    rw [← hP] at CS
    simp only [← hP] at CC
    have T1 : True := trivial
    clear hp hP CP3 CP2 CP C1' hL1 hL1e hL hv hX0 hXp h0 hB hcc
    go_enter Tryd.func3, Tryd.ntmps3
    go_wp2_with (first
      | (go_at_call 17; refine (few1_yes 260 A _ _ _ _ (by omega) h2).mono ?_; rintro e w1 ⟨rfl, rfl⟩)
      | (go_at_call 19; clear T1; refine (CO.out _ f0).mono ?_; rintro e w2 ⟨v2, rfl, sn2, f2⟩)
      | (go_at_call 19; refine (CO.out _ (f0.t f2)).mono ?_; clear CO; rintro e w3 ⟨v3, rfl, sn3, f3⟩)
      | (go_at_call 20; refine (CP4.out _ ((f0.t f2).t f3)).mono ?_; clear CP4; rintro e w4 ⟨rfl, f4⟩)
      | (go_at_call 18; refine (CB.out _ _ (by first | exact sn2 | exact sn3.fr0 f4 | exact ((sn3.fr0 f4).fr0 f5) | exact (((sn3.fr0 f4).fr0 f5).fr0 f6) | exact ((((sn3.fr0 f4).fr0 f5).fr0 f6).fr0 ((Fr.refl _ _).alloc _)).fr0 f7)).mono ?_; rintro e w9 ⟨rfl, rfl⟩)
      | (go_at_call 22; refine (CS.out _).mono ?_; rintro e w5 ⟨v5, rfl, sn5, f5⟩)
      | (go_at_call 21; refine (CC.out _ _ _ ((sn3.fr0 f4).fr0 f5) sn5).mono ?_; rintro e w6 ⟨rfl, f6⟩)
      | (go_at_call 20; refine (C1.out _ (HT.out.fr0 (((((f0.t f2).t f3).t f4).t f5).t f6))).mono ?_; rintro e w7 ⟨rfl, f7⟩))
    go_ret
    exact ⟨rfl, ((((((f0.t f2).t f3).t f4).t f5).t f6).alloc _).t f7⟩
end Go.Proofs.YtknokndpeneogaaDoor
