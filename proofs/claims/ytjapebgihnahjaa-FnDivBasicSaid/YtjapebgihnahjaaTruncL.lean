/-
  The walk of the law FnTrunc. Conditions: the words can be read.
-/
import Derived.Test.YtjapebgihnahjaaSetN
import Derived.Test.YtjapebgihnahjaaDivM
set_option linter.unusedSimpArgs false
set_option linter.unusedVariables false
namespace Go.Proofs.Ytjapebgihnahjaa
open Go.Big Go.RowKit
theorem emod_le_ {X P : Int} (h : 0 ≤ X) (hP : 0 < P) : 0 ≤ X % P ∧ X % P ≤ X := by
  have e := Int.emod_add_mul_ediv X P
  have h1 : 0 ≤ P * (X / P) := Int.mul_nonneg (by omega) (Int.ediv_nonneg h (by omega))
  exact ⟨Int.emod_nonneg _ (by omega), by omega⟩
theorem words_MID {xs : List Int} (hd : DG 18446744073709551616 xs) (hl : xs.length ≤ 15000) : val 18446744073709551616 xs < MID := by
  have h := val_lt (by omega) hd
  rw [pow64] at h
  have := pow_le_pow_ (B := 65536) (by omega) (show 4 * xs.length ≤ 60000 by omega)
  rw [MID_eq]; omega
theorem pow2_MID {k : Nat} (hk : k < 960000) : (2 : Int) ^ k < MID := by
  have h := pow_le_pow_ (B := 2) (by omega) (show k + 1 ≤ 960000 by omega)
  have hp := pow_pos_ (B := 2) (by omega) k
  rw [Int.pow_succ] at h
  have e : (2 : Int) ^ 960000 = MID := by
    rw [MID_eq]
    rw [show 960000 = 16 * 60000 from rfl, Int.pow_mul]; rfl
  omega
theorem pow2_BIG {k : Nat} (hk : k < 960000) : (2 : Int) ^ k < BIG := MID_BIG (pow2_MID hk)
set_option maxRecDepth 100000 in
theorem implTrunc_any (v : Value) (xs : List Int) (n : Nat) (w : World) (hx : Sl .u64 w v xs) (hd : DG 18446744073709551616 xs) (hl : xs.length ≤ 1000000) (hn : n ≤ 1000000) :
    Calls Try.prog 30 #[v, .int .u64 (n : Int)] w (RetW (val 18446744073709551616 xs % 2 ^ n) w) := by
  have HX := Lib.hid hx
  have HD := Lib.hid hd
  have HB := Lib.hid (words_BIG hd hl)
  have h0 := val_nonneg (by omega) hd
  obtain ⟨X, hX⟩ : ∃ X, val 18446744073709551616 xs = X := ⟨_, rfl⟩
  have HV := Lib.hid hX
  rw [hX] at HB h0 ⊢
  have hR := emod_le_ h0 (pow_pos_ (B := 2) (by omega) n)
  obtain ⟨R, hR'⟩ : ∃ R, X % 2 ^ n = R := ⟨_, rfl⟩
  have HE := Lib.hid hR'
  rw [hR'] at hR ⊢
  have HR := Lib.hid (show R < BIG by have := HB.out; omega)
  clear hx hd hX hR' hR
  go_enter Try.func30, Try.ntmps30
  go_wp2_with (first
    | (go_at_call 67; refine (normed_any _ xs _ HX.out HD.out hl).mono ?_; rintro e w1 ⟨v1, ys, rfl, sl1, dy, nzy, hvy, hly, f1⟩; have HVY := Lib.hid hvy; clear hvy)
    | (go_at_call 92; refine (zzIn_any _ ys _ sl1 (by omega)).mono ?_; rintro e w2 ⟨b2, rfl, row2, hb2, f2⟩)
    | (go_at_call 98; have sw2 := SW.mk row2 dy nzy (by omega); rw [HVY.out, HV.out] at sw2; refine (trunc_any _ X n _ sw2 HB.out hn).mono ?_; rw [HE.out]; rintro e w3 ⟨v3, rfl, sw3, f3⟩)
    | (go_at_call 97; refine (zzOutW_any _ _ _ sw3 HR.out).mono ?_; rintro e w4 ⟨v4, rfl, sw4, f4⟩)
    | (go_at_call 70; go_in))
  go_ret
  exact ⟨_, rfl, sw4, ((f1.t f2).t f3).t f4⟩
set_option maxRecDepth 100000 in
set_option maxHeartbeats 2000000 in
theorem law_FnTrunc (v : Value) (xs : List Int) (i : Int) (w : World) (hx : Sl .u64 w v xs) (hd : DG 18446744073709551616 xs) (i0 : 0 ≤ i) (i1 : i < 65536) :
    Calls Try.prog 5 #[v, .int .u16 i] w fun e w' => e = .returned (.bool true) ∧ Fr [] w w' := by
  obtain ⟨k, hk⟩ : ∃ k : Nat, (k : Int) = i := ⟨i.toNat, by omega⟩
  have hk2 : k < 65536 := by omega
  have HK := Lib.hid hk
  clear hk
  have HX := Lib.hid hx
  have HD := Lib.hid hd
  obtain ⟨A, cap, rfl, hlc, hm, hs⟩ := hx
  unfold maxLen at hm
  clear hs hd
  by_cases h1 : 2147483647 < xs.length
  · go_enter Try.func5, Try.ntmps5
    go_wp2_with fail
    go_ret
    exact ⟨rfl, Fr.refl _ _⟩
  by_cases h2 : xs.length ≤ 260
  case neg =>
    go_enter Try.func5, Try.ntmps5
    go_wp2_with (go_at_call 20; refine (few1_no 260 A _ _ _ _ (by omega) (by omega) (by omega)).mono ?_; rintro e w1 ⟨rfl, rfl⟩)
    go_ret
    exact ⟨rfl, (Fr.refl _ _).alloc _⟩
  have f0 : Fr [] w (w.alloc (.cells #[.slice A xs.length cap] 22)) := (Fr.refl _ _).alloc _
  have C1 := Lib.hid (fun W (f : Fr [] w W) => implTrunc_any _ xs k W (HX.out.fr0 f) HD.out (by omega) (by omega))
  have C2 := Lib.hid (fun W => sbit_any k W (by omega))
  have HM := Lib.hid (words_MID HD.out (show xs.length ≤ 15000 by omega))
  have HP := Lib.hid (pow2_MID (show k < 960000 by omega))
  have hp0 := pow_pos_ (B := 2) (by omega) k
  have h0 := val_nonneg (by omega) HD.out
  obtain ⟨X, hX⟩ : ∃ X, val 18446744073709551616 xs = X := ⟨_, rfl⟩
  have HV := Lib.hid hX
  rw [hX] at C1 HM h0
  obtain ⟨P, hP⟩ : ∃ P : Int, 2 ^ k = P := ⟨_, rfl⟩
  rw [hP] at C1 C2 HP hp0
  rw [HK.out] at C1 C2
  have hR := emod_le_ h0 hp0
  obtain ⟨R, hR'⟩ : ∃ R, X % P = R := ⟨_, rfl⟩
  have HE := Lib.hid hR'
  rw [hR'] at hR C1
  have HR := Lib.hid (show R < BIG by have := MID_BIG HM.out; omega)
  clear hX hP hR' hR
  go_enter Try.func5, Try.ntmps5
  go_wp2_with (first
    | (go_at_call 20; refine (few1_yes 260 A _ _ _ _ (by omega) h2).mono ?_; rintro e w1 ⟨rfl, rfl⟩)
    | (go_at_call 22; refine (of_any _ xs _ (HX.out.fr0 f0) HD.out (by omega)).mono ?_; rw [HV.out]; rintro e w2 ⟨v2, rfl, sn2, f2⟩)
    | (go_at_call 23; refine (C2.out _).mono ?_; rintro e w3 ⟨v3, rfl, sn3, f3⟩)
    | (go_at_call 21; refine (divmod_any _ _ X P _ (sn2.fr0 f3) sn3 HM.out HP.out hp0).mono ?_; rw [HE.out]; rintro e w4 ⟨v4, v5, rfl, sn4, sn5, f4⟩)
    | (go_at_call 30; refine (C1.out _ (((f0.t f2).t f3).t f4)).mono ?_; clear C1; rintro e w5 ⟨v6, rfl, sw5, f5⟩)
    | (go_at_call 29; refine (exact_any _ _ _ _ sw5 (sn5.fr0 f5) HR.out).mono ?_; rintro e w6 ⟨rfl, f6⟩)
    | (go_at_call 30; refine (implTrunc_any _ [1] 1 _ (row1 _ _ _ _) (DG.cons (by omega) (by omega) (DG.nil _)) (by simp) (by omega)).mono ?_; rw [show val 18446744073709551616 [1] % 2 ^ 1 = 1 by decide]; rintro e w7 ⟨v7, rfl, sw7, f7⟩; obtain ⟨A7, c7, rfl⟩ := SW.one sw7))
  go_ret
  exact ⟨rfl, (((((f0.t f2).t f3).t f4).t f5).t f6).t (Fr.trans ((Fr.refl _ _).alloc _) f7 (by simp))⟩
end Go.Proofs.Ytjapebgihnahjaa
