/-
  The thin package's BitLen and TrailingZeros, and the walk of the law FnBitLen. Conditions: the table of math/bits lies in its variable; the words can be read.
-/
import Derived.Test.YtknokndpeneogaaDoorBlen
import Derived.Test.YtknokndpeneogaaDoorSetBitL
set_option linter.unusedSimpArgs false
set_option linter.unusedVariables false
namespace Go.Big
theorem isLen_ex {X : Int} (h : 0 ≤ X) : ∃ L, IsLen X L := by
  obtain ⟨n, rfl⟩ := Int.eq_ofNat_of_zero_le h
  by_cases h0 : n = 0
  · subst h0; exact ⟨0, .inl ⟨rfl, rfl⟩⟩
  · refine ⟨Nat.log2 n + 1, .inr ⟨by omega, ?_, ?_⟩⟩
    · have := Nat.log2_self_le h0
      rw [Nat.add_sub_cancel]
      have e : ((2 ^ n.log2 : Nat) : Int) = (2 : Int) ^ n.log2 := by simp
      rw [← e]; omega
    · have := Nat.lt_log2_self (n := n)
      have e : ((2 ^ (n.log2 + 1) : Nat) : Int) = (2 : Int) ^ (n.log2 + 1) := by simp
      rw [← e]; omega
theorem HasTz.le {X : Int} {t : Nat} (h : HasTz X t) : 2 ^ t ≤ X := by
  obtain ⟨m, hm, rfl⟩ := h
  have hp := pow_pos_ (B := 2) (by omega) t
  have : 2 ^ t * 1 ≤ 2 ^ t * (2 * m + 1) := Int.mul_le_mul_of_nonneg_left (by omega) (by omega)
  omega
end Go.Big
namespace Go.Proofs.YtknokndpeneogaaDoor
open Go.Big Go.RowKit
theorem bits_at (va : Value) (n : Int) (L : Nat) (w : World) (ha : SN w va n) (hn : n < BIG) (hL : IsLen n L) : Calls Tryd.prog 18 #[va] w fun e w' => e = .returned (.int .i64 (L : Int)) ∧ w = w' :=
  (bits_any va n w ha hn).mono fun e w' ⟨M, he, hM, _, hw⟩ => ⟨by rw [he, hM.unique hL], hw⟩
set_option maxRecDepth 100000 in
set_option maxHeartbeats 1000000 in
theorem implBitLen_any (v : Value) (xs : List Int) (L : Nat) (w : World) (hx : Sl .u64 w v xs) (hd : DG 18446744073709551616 xs) (hl : xs.length ≤ 1000000) (hL : IsLen (val 18446744073709551616 xs) L) :
    Calls Tryd.prog 24 #[v] w fun e w' => e = .returned (.int .i64 (L : Int)) ∧ Fr [] w w' := by
  have HX := Lib.hid hx
  have HD := Lib.hid hd
  have HB := words_BIG hd hl
  obtain ⟨X, hX⟩ : ∃ X, val 18446744073709551616 xs = X := ⟨_, rfl⟩
  have HV := Lib.hid hX
  rw [hX] at HB hL
  have C := Lib.hid (fun v W (h : SW W v X) => (bitLen_any v X W h HB).mono (R' := fun e w' => e = .returned (.int .i64 (L : Int)) ∧ W = w') fun e w' ⟨M, he, hM, _, hw⟩ => ⟨by rw [he, hM.unique hL], hw⟩)
  clear hx hd HB hX hL
  go_enter Tryd.func24, Tryd.ntmps24
  go_wp2_with (first
    | (go_at_call 48; refine (normed_any _ xs _ HX.out HD.out hl).mono ?_; rintro e w1 ⟨v1, ys, rfl, sl1, dy, nzy, hvy, hly, f1⟩; have HVY := Lib.hid hvy; clear hvy)
    | (go_at_call 68; refine (zzIn_any _ ys _ sl1 (by omega)).mono ?_; rintro e w2 ⟨b2, rfl, row2, hb2, f2⟩)
    | (go_at_call 71; have sw2 := SW.mk row2 dy nzy (by omega); rw [HVY.out, HV.out] at sw2; refine (C.out _ _ sw2).mono ?_; clear sw2; rintro e w3 ⟨rfl, rfl⟩)
    | (go_at_call 49; go_in))
  go_ret
  exact ⟨rfl, f1.t f2⟩
set_option maxRecDepth 100000 in
set_option maxHeartbeats 1000000 in
theorem implTrail_any (v : Value) (xs : List Int) (w : World) (hx : Sl .u64 w v xs) (hd : DG 18446744073709551616 xs) (hl : xs.length ≤ 1000000) (hT : TabW w) :
    Calls Tryd.prog 25 #[v] w fun e w' => ∃ t : Nat, e = .returned (.int .u64 (t : Int)) ∧ (val 18446744073709551616 xs = 0 ∧ t = 0 ∨ HasTz (val 18446744073709551616 xs) t) ∧ t ≤ 64000000 ∧ Fr [] w w' := by
  have HX := Lib.hid hx
  have HD := Lib.hid hd
  have HB := words_BIG hd hl
  obtain ⟨X, hX⟩ : ∃ X, val 18446744073709551616 xs = X := ⟨_, rfl⟩
  have HV := Lib.hid hX
  rw [hX] at HB ⊢
  have C := Lib.hid (fun v W (f : Fr [] w W) (h : SW W v X) => trail_any v X W h HB (hT.fr0 f))
  clear hx hd HB hX hT
  go_enter Tryd.func25, Tryd.ntmps25
  go_wp2_with (first
    | (go_at_call 48; refine (normed_any _ xs _ HX.out HD.out hl).mono ?_; rintro e w1 ⟨v1, ys, rfl, sl1, dy, nzy, hvy, hly, f1⟩; have HVY := Lib.hid hvy; clear hvy)
    | (go_at_call 68; refine (zzIn_any _ ys _ sl1 (by omega)).mono ?_; rintro e w2 ⟨b2, rfl, row2, hb2, f2⟩)
    | (go_at_call 72; have sw2 := SW.mk row2 dy nzy (by omega); rw [HVY.out, HV.out] at sw2; refine (C.out _ _ (f1.t f2) sw2).mono ?_; clear sw2; rintro e w3 ⟨t, rfl, ht, ht9, rfl⟩; have HT := Lib.hid ht; clear ht)
    | (go_at_call 50; go_in))
  go_ret
  exact ⟨t, rfl, HT.out, ht9, f1.t f2⟩
set_option maxRecDepth 100000 in
set_option maxHeartbeats 2000000 in
theorem fnBitLen_in (A : Option Addr) (cap : Nat) (xs : List Int) (X : Int) (L t : Nat) (w : World) (hm : cap ≤ 2 ^ 63 - 1) (hlc : xs.length ≤ cap) (h2 : xs.length ≤ 260) (HX : Hid (Sl .u64 w (.slice A xs.length cap) xs)) (HD : Hid (DG 18446744073709551616 xs)) (HT : Hid (TabW w)) (HV : Hid (val 18446744073709551616 xs = X)) (HL : Hid (IsLen X L))
    (HTZ : Hid (X = 0 ∧ t = 0 ∨ HasTz X t)) : Calls Tryd.prog 4 #[.slice A xs.length cap] w fun e w' => e = .returned (.bool true) ∧ Fr [] w w' := by
  have hB := words_BIG HD.out (show xs.length ≤ 1000000 by omega)
  rw [HV.out] at hB
  have f0 : Fr [] w (w.alloc (.cells #[.slice A xs.length cap] 22)) := (Fr.refl _ _).alloc _
  have CO := Lib.hid (fun W (f : Fr [] w W) => of_any _ xs W (HX.out.fr0 f) HD.out (by omega))
  have CB := Lib.hid (fun va W (h : SN W va X) => bits_at va X L W h hB HL.out)
  have CI := Lib.hid (fun W (f : Fr [] w W) => implBitLen_any _ xs L W (HX.out.fr0 f) HD.out (by omega) (by rw [HV.out]; exact HL.out))
  have htu : ∀ s : Nat, (X = 0 ∧ s = 0 ∨ HasTz X s) → s = t := fun s hs => by
    rcases hs with ⟨h0, rfl⟩ | hs <;> rcases HTZ.out with ⟨h1, rfl⟩ | ht
    · rfl
    · have := ht.bit.2.2; omega
    · have := hs.bit.2.2; omega
    · rcases Nat.lt_trichotomy s t with h | h | h
      · have a := ht.bit.2.1 s h
        have b := hs.bit.1
        omega
      · exact h
      · have a := hs.bit.2.1 t h
        have b := ht.bit.1
        omega
  have CTZ := Lib.hid (fun W (f : Fr [] w W) => (implTrail_any _ xs W (HX.out.fr0 f) HD.out (by omega) (HT.out.fr0 f)).mono (R' := fun e w' => e = .returned (.int .u64 (t : Int)) ∧ Fr [] W w') fun e w' ⟨s, he, hs, _, hw⟩ => ⟨by rw [he, htu s (by rw [← HV.out]; exact hs)], hw⟩)
  have CH := Lib.hid (fun va (k : Nat) W (h : SN W va X) (hk : k < 4611686018427387904) => has_any va X k W h hk)
  have C1 := Lib.hid (fun W => implBitLen_any _ [1] 1 _ (row1 W _ 28 _) (DG.cons (by omega) (by omega) (DG.nil _)) (by simp) (.inr ⟨by omega, by decide, by decide⟩))
  simp only [HV.out] at CO
  have htL : t ≤ L ∧ (X ≠ 0 → t < L) ∧ (X = 0 → L = 0) ∧ L ≤ 64000000 := by
    have hl9 : L ≤ 64000000 := by
      rcases HL.out with ⟨_, h⟩ | ⟨h1, h3, _⟩
      · omega
      · rcases Nat.lt_or_ge 64000000 L with h | h
        · have a := pow_le_pow_ (B := 2) (by omega) (show 64 * 260 ≤ L - 1 by omega)
          have hv := val_lt_of_len (B := 18446744073709551616) (by omega) HD.out h2
          rw [HV.out] at hv
          have e : (18446744073709551616 : Int) ^ 260 = 2 ^ (64 * 260) := by rw [Int.pow_mul]; rfl
          rw [e] at hv
          generalize (2 : Int) ^ (64 * 260) = P at *
          omega
        · exact h
    rcases HTZ.out with ⟨h1, rfl⟩ | ht
    · refine ⟨by omega, fun h => absurd h1 h, fun _ => ?_, hl9⟩
      exact HL.out.unique (.inl ⟨h1, rfl⟩)
    · have hle := ht.le
      have hp := ht.bit.2.2
      have : t < L := by
        rcases HL.out with ⟨h, _⟩ | ⟨_, _, h3⟩
        · omega
        · rcases Nat.lt_or_ge t L with h | h
          · exact h
          · have := pow_le_pow_ (B := 2) (by omega) h; omega
      exact ⟨by omega, fun _ => this, fun h => by omega, hl9⟩
  obtain ⟨htL1, htL2, htL3, hL9⟩ := htL
  have HT2 := Lib.hid htL2
  have HT3 := Lib.hid htL3
  have hLi : ((L : Int) == (L : Int)) = true := by simp
  have T1 : True := trivial
  clear htu hB htL2 htL3
  go_enter Tryd.func4, Tryd.ntmps4
  go_wp2_with (first
    | (go_at_call 17; refine (few1_yes 260 A _ _ _ _ (by omega) h2).mono ?_; rintro e w1 ⟨rfl, rfl⟩)
    | (go_at_call 19; refine (CO.out _ f0).mono ?_; rintro e w2 ⟨v2, rfl, sn2, f2⟩))
  go_loopg [4] t (fun g iv wr => ∃ k : Nat, k ≤ t ∧ g = t - k ∧ iv = .int .i64 (k : Int) ∧ w2 = wr)
  case atStart => exact ⟨0, by omega, rfl, rfl, rfl⟩
  case round =>
    obtain ⟨k, hk, rfl, rfl, rfl⟩ := hrel
    have CHK := Lib.hid (CH.out v2 k w2 sn2 (by omega))
    by_cases hkt : k < t
    · have hb : X / 2 ^ k % 2 = 0 := by
        rcases HTZ.out with ⟨_, h⟩ | ht
        · omega
        · exact ht.bit.2.1 k hkt
      have hkL : (k : Int) < (L : Int) := by omega
      rw [hb, show ((0 : Int) == 1) = false from rfl] at CHK
      clear hb
      go_wp2_with (first
        | (go_at_call 18; refine (CB.out _ _ sn2).mono ?_; rintro e w3 ⟨rfl, rfl⟩)
        | (go_at_call 23; refine (Hid.out CHK).mono ?_; rintro e w3 ⟨rfl, rfl⟩))
      go_roundg (t - (k + 1))
      case measure => omega
      case rel => exact ⟨k + 1, by omega, rfl, by go_num, rfl⟩
    · obtain rfl : k = t := by omega
      have hwk : IntKind.i64.wrap (k : Int) = (k : Int) := by rw [IntKind.wrap_i64]; omega
      have hkk : ((k : Int) == (k : Int)) = true := by simp
      by_cases hX0 : X = 0
      · have hL0 := HT3.out hX0
        have hkL : ¬ (k : Int) < (L : Int) := by omega
        clear hL0 hX0
        go_wp2_with (first
          | (go_at_call 18; refine (CB.out _ _ (by first | exact sn2 | exact sn2.fr0 f4)).mono ?_; rintro e w3 ⟨rfl, rfl⟩)
          | (go_at_call 24; clear T1; refine (CI.out _ (f0.t f2)).mono ?_; rintro e w4 ⟨rfl, f4⟩)
          | (go_at_call 25; refine (CTZ.out _ ((f0.t f2).t f4)).mono ?_; rintro e w5 ⟨rfl, f5⟩)
          | (go_at_call 24; refine (C1.out _).mono ?_; rintro e w6 ⟨rfl, f6⟩))
        go_ret
        exact ⟨rfl, ((((f0.t f2).t f4).t f5).alloc _).t f6⟩
      · have hkL : (k : Int) < (L : Int) := by have := HT2.out hX0; omega
        have hb : X / 2 ^ k % 2 = 1 := by
          rcases HTZ.out with ⟨h, _⟩ | ht
          · exact absurd h hX0
          · exact ht.bit.1
        rw [hb, show ((1 : Int) == 1) = true from rfl] at CHK
        clear hb hX0
        go_wp2_with (first
          | (go_at_call 18; refine (CB.out _ _ (by first | exact sn2 | exact sn2.fr0 f4)).mono ?_; rintro e w3 ⟨rfl, rfl⟩)
          | (go_at_call 23; refine (Hid.out CHK).mono ?_; rintro e w3 ⟨rfl, rfl⟩)
          | (go_at_call 24; clear T1; refine (CI.out _ (f0.t f2)).mono ?_; rintro e w4 ⟨rfl, f4⟩)
          | (go_at_call 25; refine (CTZ.out _ ((f0.t f2).t f4)).mono ?_; rintro e w5 ⟨rfl, f5⟩)
          | (go_at_call 24; refine (C1.out _).mono ?_; rintro e w6 ⟨rfl, f6⟩))
        go_ret
        exact ⟨rfl, ((((f0.t f2).t f4).t f5).alloc _).t f6⟩
set_option maxRecDepth 100000 in
theorem law_FnBitLen (v : Value) (xs : List Int) (w : World) (hx : Sl .u64 w v xs) (hd : DG 18446744073709551616 xs) (hT : TabW w) :
    Calls Tryd.prog 4 #[v] w fun e w' => e = .returned (.bool true) ∧ Fr [] w w' := by
  have HX := Lib.hid hx
  have HD := Lib.hid hd
  have HT := Lib.hid hT
  obtain ⟨A, cap, rfl, hlc, hm, hs⟩ := hx
  unfold maxLen at hm
  clear hs hd hT
  by_cases h1 : 2147483647 < xs.length
  · go_enter Tryd.func4, Tryd.ntmps4
    go_wp2_with fail
    go_ret
    exact ⟨rfl, Fr.refl _ _⟩
  by_cases h2 : xs.length ≤ 260
  case neg =>
    go_enter Tryd.func4, Tryd.ntmps4
    go_wp2_with (go_at_call 17; refine (few1_no 260 A _ _ _ _ (by omega) (by omega) (by omega)).mono ?_; rintro e w1 ⟨rfl, rfl⟩)
    go_ret
    exact ⟨rfl, (Fr.refl _ _).alloc _⟩
  have h0 := val_nonneg (by omega) HD.out
  obtain ⟨L, hL⟩ := isLen_ex h0
  have htz : ∃ t, (val 18446744073709551616 xs = 0 ∧ t = 0 ∨ HasTz (val 18446744073709551616 xs) t) := by
    by_cases hz : val 18446744073709551616 xs = 0
    · exact ⟨0, .inl ⟨hz, rfl⟩⟩
    · have hex : ∃ i, i < xs.length ∧ xs.getD i 0 ≠ 0 := by
        by_cases he : ∃ i, i < xs.length ∧ xs.getD i 0 ≠ 0
        · exact he
        · exfalso
          refine hz (val_zeros _ (fun x hx => ?_))
          obtain ⟨n, hn, rfl⟩ := List.mem_iff_getElem.1 hx
          by_cases e : xs[n] = 0
          · exact e
          · exact absurd ⟨n, hn, by rw [getD_in hn]; exact e⟩ he
      obtain ⟨i, hi, hn, hzz⟩ := first_nz hex
      obtain ⟨b0, b1⟩ := HD.out.getD (by omega) i
      have e : ((xs.getD i 0).toNat : Int) = xs.getD i 0 := by omega
      obtain ⟨c1, c2⟩ := HasTz.word (x := (xs.getD i 0).toNat) (by omega) (by omega)
      exact ⟨_, .inr (HasTz.words HD.out hi hzz e c1 c2)⟩
  obtain ⟨t, ht⟩ := htz
  exact fnBitLen_in A cap xs _ L t w hm hlc h2 HX HD HT (Lib.hid rfl) (Lib.hid hL) (Lib.hid ht)
end Go.Proofs.YtknokndpeneogaaDoor
