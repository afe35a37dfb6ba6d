/-
  The walk of the law FnSetBit. Conditions: the words can be read.
-/
import Derived.Test.YtjapebgihnahjaaSetBitL
set_option linter.unusedSimpArgs false
set_option linter.unusedVariables false
namespace Go.Proofs.Ytjapebgihnahjaa
open Go.Big Go.RowKit
theorem putBit_eq {X P : Int} {n : Nat} (hP : 2 ^ n = P) (h : X / P % 2 = 0 ∨ X / P % 2 = 1) (b : Int) : putBit X n b = (if X / P % 2 = 1 then X - P else X) + P * b := by
  unfold putBit
  rw [hP]
  split <;> rename_i h1
  · rw [h1]; omega
  · have : X / P % 2 = 0 := by omega
    rw [this]; omega
set_option maxRecDepth 100000 in
set_option maxHeartbeats 2000000 in
theorem sb_00 (A : Option Addr) (cap : Nat) (xs : List Int) (i X P : Int) (w : World) (hlc : xs.length ≤ cap) (hm : cap ≤ 9223372036854775807) (i0 : 0 ≤ i) (i1 : i < 65536) (h2 : xs.length ≤ 260)
    (HX : Hid (Sl .u64 w (.slice A xs.length cap) xs)) (HD : Hid (DG 18446744073709551616 xs)) (HV : Hid (val 18446744073709551616 xs = X)) (HXB : Hid (X < BIG)) (HPB : Hid (P < BIG)) (HXP : Hid (X - P < BIG)) (HSB : Hid (X + P < BIG)) (HXPP : Hid (X - P + P < BIG))
    (C2 : Hid (∀ W, Calls Try.prog 23 #[.int .i64 i] W (RetSN P W)))
    (ONE : Hid (∀ W, Calls Try.prog 35 #[.slice none 0 0, .int .u64 0, .int .u64 1] W (RetW 1 W)))
    (C1 : Hid (∀ W, Fr [] w W → Calls Try.prog 35 #[.slice A xs.length cap, .int .u64 i, .int .u64 0] W (RetW (X) W)))
    (C3 : Hid (∀ va W, SN W va X → Calls Try.prog 32 #[va, .int .i64 i] W fun e w' => e = .returned (.bool false) ∧ W = w')) :
    Calls Try.prog 7 #[.slice A xs.length cap, .int .u16 i, .bool false] w fun e w' => e = .returned (.bool true) ∧ Fr [] w w' := by
  have f0 : Fr [] w (w.alloc (.cells #[.slice A xs.length cap] 22)) := (Fr.refl _ _).alloc _
  go_enter Try.func7, Try.ntmps7
  go_wp2_with (first
    | (go_at_call 20; refine (few1_yes 260 A _ _ _ _ (by omega) h2).mono ?_; rintro e w1 ⟨rfl, rfl⟩)
    | (go_at_call 22; refine (of_any _ xs _ (HX.out.fr0 f0) HD.out (by omega)).mono ?_; rw [HV.out]; rintro e w2 ⟨v2, rfl, sn2, f2⟩)
    | (go_at_call 32; refine (C3.out _ _ sn2).mono ?_; rintro e w3 ⟨rfl, rfl⟩)
    | (go_at_call 35; refine (C1.out _ (f0.t f2)).mono ?_; clear C1; rintro e w5 ⟨v6, rfl, sw5, f5⟩)
    | (go_at_call 29; refine (exact_any _ _ _ _ sw5 (sn2.fr0 f5) HXB.out).mono ?_; rintro e w6 ⟨rfl, f6⟩)
    | (go_at_call 35; refine (ONE.out _).mono ?_; rintro e w7 ⟨v7, rfl, sw7, f7⟩; obtain ⟨A7, c7, rfl⟩ := SW.one sw7))
  go_ret
  exact ⟨rfl, (((f0.t f2).t f5).t f6).t f7⟩
set_option maxRecDepth 100000 in
set_option maxHeartbeats 2000000 in
theorem sb_01 (A : Option Addr) (cap : Nat) (xs : List Int) (i X P : Int) (w : World) (hlc : xs.length ≤ cap) (hm : cap ≤ 9223372036854775807) (i0 : 0 ≤ i) (i1 : i < 65536) (h2 : xs.length ≤ 260)
    (HX : Hid (Sl .u64 w (.slice A xs.length cap) xs)) (HD : Hid (DG 18446744073709551616 xs)) (HV : Hid (val 18446744073709551616 xs = X)) (HXB : Hid (X < BIG)) (HPB : Hid (P < BIG)) (HXP : Hid (X - P < BIG)) (HSB : Hid (X + P < BIG)) (HXPP : Hid (X - P + P < BIG))
    (C2 : Hid (∀ W, Calls Try.prog 23 #[.int .i64 i] W (RetSN P W)))
    (ONE : Hid (∀ W, Calls Try.prog 35 #[.slice none 0 0, .int .u64 0, .int .u64 1] W (RetW 1 W)))
    (C1 : Hid (∀ W, Fr [] w W → Calls Try.prog 35 #[.slice A xs.length cap, .int .u64 i, .int .u64 1] W (RetW (X + P) W)))
    (C3 : Hid (∀ va W, SN W va X → Calls Try.prog 32 #[va, .int .i64 i] W fun e w' => e = .returned (.bool false) ∧ W = w')) :
    Calls Try.prog 7 #[.slice A xs.length cap, .int .u16 i, .bool true] w fun e w' => e = .returned (.bool true) ∧ Fr [] w w' := by
  have f0 : Fr [] w (w.alloc (.cells #[.slice A xs.length cap] 22)) := (Fr.refl _ _).alloc _
  go_enter Try.func7, Try.ntmps7
  go_wp2_with (first
    | (go_at_call 20; refine (few1_yes 260 A _ _ _ _ (by omega) h2).mono ?_; rintro e w1 ⟨rfl, rfl⟩)
    | (go_at_call 22; refine (of_any _ xs _ (HX.out.fr0 f0) HD.out (by omega)).mono ?_; rw [HV.out]; rintro e w2 ⟨v2, rfl, sn2, f2⟩)
    | (go_at_call 32; refine (C3.out _ _ sn2).mono ?_; rintro e w3 ⟨rfl, rfl⟩)
    | (go_at_call 23; refine (C2.out _).mono ?_; rintro e w8 ⟨v8, rfl, sn8, f8⟩)
    | (go_at_call 34; refine (add_any _ _ X P _ (sn2.fr0 f8) sn8 HXB.out HPB.out).mono ?_; rintro e w9 ⟨v9, rfl, sn9, f9⟩)
    | (go_at_call 35; refine (C1.out _ (((f0.t f2).t f8).t f9)).mono ?_; clear C1; rintro e w5 ⟨v6, rfl, sw5, f5⟩)
    | (go_at_call 29; refine (exact_any _ _ _ _ sw5 (sn9.fr0 f5) HSB.out).mono ?_; rintro e w6 ⟨rfl, f6⟩)
    | (go_at_call 35; refine (ONE.out _).mono ?_; rintro e w7 ⟨v7, rfl, sw7, f7⟩; obtain ⟨A7, c7, rfl⟩ := SW.one sw7))
  go_ret
  exact ⟨rfl, (((((f0.t f2).t f8).t f9).t f5).t f6).t f7⟩
set_option maxRecDepth 100000 in
set_option maxHeartbeats 2000000 in
theorem sb_10 (A : Option Addr) (cap : Nat) (xs : List Int) (i X P : Int) (w : World) (hlc : xs.length ≤ cap) (hm : cap ≤ 9223372036854775807) (i0 : 0 ≤ i) (i1 : i < 65536) (h2 : xs.length ≤ 260)
    (HX : Hid (Sl .u64 w (.slice A xs.length cap) xs)) (HD : Hid (DG 18446744073709551616 xs)) (HV : Hid (val 18446744073709551616 xs = X)) (HXB : Hid (X < BIG)) (HPB : Hid (P < BIG)) (HXP : Hid (X - P < BIG)) (HSB : Hid (X + P < BIG)) (HXPP : Hid (X - P + P < BIG))
    (C2 : Hid (∀ W, Calls Try.prog 23 #[.int .i64 i] W (RetSN P W)))
    (ONE : Hid (∀ W, Calls Try.prog 35 #[.slice none 0 0, .int .u64 0, .int .u64 1] W (RetW 1 W)))
    (C1 : Hid (∀ W, Fr [] w W → Calls Try.prog 35 #[.slice A xs.length cap, .int .u64 i, .int .u64 0] W (RetW (X - P) W)))
    (C3 : Hid (∀ va W, SN W va X → Calls Try.prog 32 #[va, .int .i64 i] W fun e w' => e = .returned (.bool true) ∧ W = w')) (HLE : Hid (P ≤ X)) :
    Calls Try.prog 7 #[.slice A xs.length cap, .int .u16 i, .bool false] w fun e w' => e = .returned (.bool true) ∧ Fr [] w w' := by
  have f0 : Fr [] w (w.alloc (.cells #[.slice A xs.length cap] 22)) := (Fr.refl _ _).alloc _
  go_enter Try.func7, Try.ntmps7
  go_wp2_with (first
    | (go_at_call 20; refine (few1_yes 260 A _ _ _ _ (by omega) h2).mono ?_; rintro e w1 ⟨rfl, rfl⟩)
    | (go_at_call 22; refine (of_any _ xs _ (HX.out.fr0 f0) HD.out (by omega)).mono ?_; rw [HV.out]; rintro e w2 ⟨v2, rfl, sn2, f2⟩)
    | (go_at_call 32; refine (C3.out _ _ sn2).mono ?_; rintro e w3 ⟨rfl, rfl⟩)
    | (go_at_call 23; refine (C2.out _).mono ?_; rintro e w8 ⟨v8, rfl, sn8, f8⟩)
    | (go_at_call 33; refine (sub_any _ _ X P _ (sn2.fr0 f8) sn8 HXB.out HLE.out).mono ?_; rintro e w9 ⟨v9, rfl, sn9, f9⟩)
    | (go_at_call 35; refine (C1.out _ (((f0.t f2).t f8).t f9)).mono ?_; clear C1; rintro e w5 ⟨v6, rfl, sw5, f5⟩)
    | (go_at_call 29; refine (exact_any _ _ _ _ sw5 (sn9.fr0 f5) HXP.out).mono ?_; rintro e w6 ⟨rfl, f6⟩)
    | (go_at_call 35; refine (ONE.out _).mono ?_; rintro e w7 ⟨v7, rfl, sw7, f7⟩; obtain ⟨A7, c7, rfl⟩ := SW.one sw7))
  go_ret
  exact ⟨rfl, (((((f0.t f2).t f8).t f9).t f5).t f6).t f7⟩
set_option maxRecDepth 100000 in
set_option maxHeartbeats 2000000 in
theorem sb_11 (A : Option Addr) (cap : Nat) (xs : List Int) (i X P : Int) (w : World) (hlc : xs.length ≤ cap) (hm : cap ≤ 9223372036854775807) (i0 : 0 ≤ i) (i1 : i < 65536) (h2 : xs.length ≤ 260)
    (HX : Hid (Sl .u64 w (.slice A xs.length cap) xs)) (HD : Hid (DG 18446744073709551616 xs)) (HV : Hid (val 18446744073709551616 xs = X)) (HXB : Hid (X < BIG)) (HPB : Hid (P < BIG)) (HXP : Hid (X - P < BIG)) (HSB : Hid (X + P < BIG)) (HXPP : Hid (X - P + P < BIG))
    (C2 : Hid (∀ W, Calls Try.prog 23 #[.int .i64 i] W (RetSN P W)))
    (ONE : Hid (∀ W, Calls Try.prog 35 #[.slice none 0 0, .int .u64 0, .int .u64 1] W (RetW 1 W)))
    (C1 : Hid (∀ W, Fr [] w W → Calls Try.prog 35 #[.slice A xs.length cap, .int .u64 i, .int .u64 1] W (RetW (X - P + P) W)))
    (C3 : Hid (∀ va W, SN W va X → Calls Try.prog 32 #[va, .int .i64 i] W fun e w' => e = .returned (.bool true) ∧ W = w')) (HLE : Hid (P ≤ X)) :
    Calls Try.prog 7 #[.slice A xs.length cap, .int .u16 i, .bool true] w fun e w' => e = .returned (.bool true) ∧ Fr [] w w' := by
  have f0 : Fr [] w (w.alloc (.cells #[.slice A xs.length cap] 22)) := (Fr.refl _ _).alloc _
  have T1 : True := trivial
  go_enter Try.func7, Try.ntmps7
  go_wp2_with (first
    | (go_at_call 20; refine (few1_yes 260 A _ _ _ _ (by omega) h2).mono ?_; rintro e w1 ⟨rfl, rfl⟩)
    | (go_at_call 22; refine (of_any _ xs _ (HX.out.fr0 f0) HD.out (by omega)).mono ?_; rw [HV.out]; rintro e w2 ⟨v2, rfl, sn2, f2⟩)
    | (go_at_call 32; refine (C3.out _ _ sn2).mono ?_; rintro e w3 ⟨rfl, rfl⟩)
    | (go_at_call 23; clear T1; refine (C2.out _).mono ?_; rintro e w8 ⟨v8, rfl, sn8, f8⟩)
    | (go_at_call 23; refine (C2.out _).mono ?_; rintro e w10 ⟨v10, rfl, sn10, f10⟩)
    | (go_at_call 33; refine (sub_any _ _ X P _ (sn2.fr0 f8) sn8 HXB.out HLE.out).mono ?_; rintro e w9 ⟨v9, rfl, sn9, f9⟩)
    | (go_at_call 34; refine (add_any _ _ (X - P) P _ (sn9.fr0 f10) sn10 HXP.out HPB.out).mono ?_; rintro e w11 ⟨v11, rfl, sn11, f11⟩)
    | (go_at_call 35; refine (C1.out _ (((((f0.t f2).t f8).t f9).t f10).t f11)).mono ?_; clear C1; rintro e w5 ⟨v6, rfl, sw5, f5⟩)
    | (go_at_call 29; refine (exact_any _ _ _ _ sw5 (sn11.fr0 f5) HXPP.out).mono ?_; rintro e w6 ⟨rfl, f6⟩)
    | (go_at_call 35; refine (ONE.out _).mono ?_; rintro e w7 ⟨v7, rfl, sw7, f7⟩; obtain ⟨A7, c7, rfl⟩ := SW.one sw7))
  go_ret
  exact ⟨rfl, (((((((f0.t f2).t f8).t f9).t f10).t f11).t f5).t f6).t f7⟩
set_option maxRecDepth 100000 in
set_option maxHeartbeats 1000000 in
theorem law_FnSetBit (v : Value) (xs : List Int) (i : Int) (b : Bool) (w : World) (hx : Sl .u64 w v xs) (hd : DG 18446744073709551616 xs) (i0 : 0 ≤ i) (i1 : i < 65536) :
    Calls Try.prog 7 #[v, .int .u16 i, .bool b] w fun e w' => e = .returned (.bool true) ∧ Fr [] w w' := by
  obtain ⟨k, hk⟩ : ∃ k : Nat, (k : Int) = i := ⟨i.toNat, by omega⟩
  have hk2 : k < 65536 := by omega
  have HK := Lib.hid hk
  clear hk
  have HX := Lib.hid hx
  have HD := Lib.hid hd
  obtain ⟨A, cap, rfl, hlc, hm, hs⟩ := hx
  unfold maxLen at hm
  clear hs hd
  by_cases h1 : 2147483647 < xs.length
  · go_enter Try.func7, Try.ntmps7
    go_wp2_with fail
    go_ret
    exact ⟨rfl, Fr.refl _ _⟩
  by_cases h2 : xs.length ≤ 260
  case neg =>
    go_enter Try.func7, Try.ntmps7
    go_wp2_with (go_at_call 20; refine (few1_no 260 A _ _ _ _ (by omega) (by omega) (by omega)).mono ?_; rintro e w1 ⟨rfl, rfl⟩)
    go_ret
    exact ⟨rfl, (Fr.refl _ _).alloc _⟩
  have f0 : Fr [] w (w.alloc (.cells #[.slice A xs.length cap] 22)) := (Fr.refl _ _).alloc _
  have HM := Lib.hid (words_MID HD.out (show xs.length ≤ 15000 by omega))
  have HP := Lib.hid (pow2_MID (show k < 960000 by omega))
  have hp0 := pow_pos_ (B := 2) (by omega) k
  have h0 := val_nonneg (by omega) HD.out
  have hsum : val 18446744073709551616 xs + 2 ^ k < BIG := by
    have h3 := val_lt (by omega) HD.out
    have h4 := pow_le_pow_ (B := 2) (by omega) (show k ≤ 64 * 2000 by omega)
    have h5 := pow_le_pow_ (B := 18446744073709551616) (by omega) (show xs.length ≤ 2000 by omega)
    have e : (2 : Int) ^ (64 * 2000) = 18446744073709551616 ^ 2000 := by rw [Int.pow_mul]; rfl
    rw [e] at h4
    have h6 : (18446744073709551616 : Int) ^ 2000 + 18446744073709551616 ^ 2000 ≤ 18446744073709551616 ^ 2001 := by
      rw [Int.pow_succ]
      have := pow_pos_ (B := 18446744073709551616) (by omega) 2000
      omega
    exact lt_BIG64 2001 (by omega) (by omega)
  have C2 := Lib.hid (fun W => sbit_any k W (by omega))
  have C3 := fun (va : Value) W (ha : SN W va (val 18446744073709551616 xs)) => has_any va _ k W ha (by omega)
  have ONE := Lib.hid (fun W => implSetBit_any (.slice none 0 0) [] 0 1 W (Sl.nil _ _) (DG.nil _) (by simp) (by omega) (.inr rfl) (by rw [show putBit (val 18446744073709551616 []) 0 1 = 1 by decide]; exact word_BIG (by omega)))
  rw [show putBit (val 18446744073709551616 []) 0 1 = 1 by decide] at ONE
  have hbit := putBit_eq (X := val 18446744073709551616 xs) (n := k) rfl (by omega)
  have hle : (val 18446744073709551616 xs) / 2 ^ k % 2 = 1 → 2 ^ k ≤ val 18446744073709551616 xs := by
    intro h
    have e := Int.emod_add_mul_ediv (val 18446744073709551616 xs) (2 ^ k)
    have e2 := Int.emod_nonneg (val 18446744073709551616 xs) (show (2 : Int) ^ k ≠ 0 by omega)
    have e3 : 2 ^ k * 1 ≤ 2 ^ k * (val 18446744073709551616 xs / 2 ^ k) := Int.mul_le_mul_of_nonneg_left (by have := Int.ediv_nonneg h0 (show (0 : Int) ≤ 2 ^ k by omega); omega) (by omega)
    omega
  have C1 := fun (b : Int) W (f : Fr [] w W) (hb : b = 0 ∨ b = 1) => implSetBit_any _ xs k b W (HX.out.fr0 f) HD.out (by omega) (by omega) hb (by
    rw [hbit]
    have hpb : 2 ^ k * b ≤ 2 ^ k := by rcases hb with rfl | rfl <;> omega
    split <;> omega)
  obtain ⟨X, hX⟩ : ∃ X, val 18446744073709551616 xs = X := ⟨_, rfl⟩
  have HV := Lib.hid hX
  rw [hX] at HM h0 hbit hle hsum
  simp only [hX, hbit] at C1
  simp only [hX] at C3
  obtain ⟨P, hP⟩ : ∃ P : Int, 2 ^ k = P := ⟨_, rfl⟩
  simp only [hP] at C1 C2 C3 HP hp0 hle hsum
  simp only [HK.out] at C1
  rw [HK.out] at C2
  simp only [HK.out] at C3
  obtain ⟨d, hd⟩ : ∃ d, X / P % 2 = d := ⟨_, rfl⟩
  have hd2 : d = 0 ∨ d = 1 := by omega
  have HE := Lib.hid hd
  rw [hd] at hle
  simp only [hd] at C1 C3
  have HXB := Lib.hid (show X < BIG by omega)
  have HXP := Lib.hid (show X - P < BIG by omega)
  have HPB := Lib.hid (show P < BIG by omega)
  have HSB := Lib.hid hsum
  have HXPP := Lib.hid (show X - P + P < BIG by omega)
  clear hX hP hbit hd hsum
  rcases hd2 with rfl | rfl
  · have C3 := Lib.hid C3
    simp only [show ¬ ((0 : Int) = 1) by omega, if_false] at C1
    have D0 := Lib.hid (show ∀ W, Fr [] w W → Calls Try.prog 35 #[.slice A xs.length cap, .int .u64 i, .int .u64 0] W (RetW X W) from fun W (f : Fr [] w W) => by have h := C1 0 W f (.inl rfl); rwa [show X + P * 0 = X by omega] at h)
    have D1 := Lib.hid (show ∀ W, Fr [] w W → Calls Try.prog 35 #[.slice A xs.length cap, .int .u64 i, .int .u64 1] W (RetW (X + P) W) from fun W (f : Fr [] w W) => by have h := C1 1 W f (.inr rfl); rwa [show X + P * 1 = X + P by omega] at h)
    cases b
    · exact sb_00 A cap xs i X P w hlc (by omega) i0 i1 h2 HX HD HV HXB HPB HXP HSB HXPP C2 ONE D0 C3
    · exact sb_01 A cap xs i X P w hlc (by omega) i0 i1 h2 HX HD HV HXB HPB HXP HSB HXPP C2 ONE D1 C3
  · have C3 := Lib.hid C3
    have HLE := Lib.hid (hle rfl)
    simp only [if_true] at C1
    have D0 := Lib.hid (show ∀ W, Fr [] w W → Calls Try.prog 35 #[.slice A xs.length cap, .int .u64 i, .int .u64 0] W (RetW (X - P) W) from fun W (f : Fr [] w W) => by have h := C1 0 W f (.inl rfl); rwa [show X - P + P * 0 = X - P by omega] at h)
    have D1 := Lib.hid (show ∀ W, Fr [] w W → Calls Try.prog 35 #[.slice A xs.length cap, .int .u64 i, .int .u64 1] W (RetW (X - P + P) W) from fun W (f : Fr [] w W) => by have h := C1 1 W f (.inr rfl); rwa [show X - P + P * 1 = X - P + P by omega] at h)
    cases b
    · exact sb_10 A cap xs i X P w hlc (by omega) i0 i1 h2 HX HD HV HXB HPB HXP HSB HXPP C2 ONE D0 C3 HLE
    · exact sb_11 A cap xs i X P w hlc (by omega) i0 i1 h2 HX HD HV HXB HPB HXP HSB HXPP C2 ONE D1 C3 HLE
end Go.Proofs.Ytjapebgihnahjaa
