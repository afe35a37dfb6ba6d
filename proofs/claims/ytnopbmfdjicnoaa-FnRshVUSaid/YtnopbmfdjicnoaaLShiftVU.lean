/-
  ZZLshVU, ZZRshVU and the walks of the laws FnLshVU, FnRshVU. Conditions: the words can be read.
-/
import Derived.Test.YtnopbmfdjicnoaaShift2
import Derived.Test.YtnopbmfdjicnoaaSpecS
import Derived.Test.YtnopbmfdjicnoaaSpecB
import Derived.Test.YtnopbmfdjicnoaaFew
set_option linter.unusedSimpArgs false
set_option linter.unusedVariables false
namespace Go.Proofs.Ytnopbmfdjicnoaa
open Go.Big Go.RowKit

theorem fr_new {w w1 w2 : World} {b : Nat} (h : Fr [] w w1) (h' : Fr [b] w1 w2) (hb : w.heap.size ≤ b) : Fr [] w w2 :=
  h.trans h' (fun x hx hlt => by simp at hx; omega)

def RetShl (w : World) (xs : List Int) (s : Nat) (e : Ending) (w' : World) : Prop :=
  ∃ (A : Option Addr) (cap : Nat) (zs : List Int) (c : Int), e = .returned (.tuple #[.slice A xs.length cap, .int .u64 c]) ∧ Sl .u64 w' (.slice A xs.length cap) zs ∧ zs.length = xs.length ∧ DG 18446744073709551616 zs ∧ 0 ≤ c ∧ c < 18446744073709551616 ∧
    val 18446744073709551616 zs + 18446744073709551616 ^ xs.length * c = val 18446744073709551616 xs * 2 ^ s ∧ Fr [] w w'
def RetShr (w : World) (xs : List Int) (s : Nat) (e : Ending) (w' : World) : Prop :=
  ∃ (A : Option Addr) (cap : Nat) (zs : List Int) (c : Int), e = .returned (.tuple #[.slice A xs.length cap, .int .u64 c]) ∧ Sl .u64 w' (.slice A xs.length cap) zs ∧ zs.length = xs.length ∧ DG 18446744073709551616 zs ∧ 0 ≤ c ∧ c < 18446744073709551616 ∧
    val 18446744073709551616 zs * 18446744073709551616 + c = val 18446744073709551616 xs * 2 ^ (64 - s) ∧ Fr [] w w'
theorem pow_lt_W {s : Nat} (h : s < 64) : (2 : Int) ^ s ≤ 18446744073709551616 := pow_le_pow_ (B := 2) (by omega) (show s ≤ 64 by omega)

theorem shl64_BIG {xs : List Int} (hd : DG 18446744073709551616 xs) (hl : xs.length ≤ 100) : val 18446744073709551616 xs * 18446744073709551616 < BIG := by
  refine lt_BIG64 101 ?_ (by omega)
  have h1 := val_lt_of_len (by omega) hd hl
  rw [Int.pow_succ]
  exact Int.mul_lt_mul_of_pos_right h1 (by omega)
theorem shift_arg {k : Nat} (h : k < 64) : (64 - (k : Int)) = ((64 - k : Nat) : Int) := by omega
set_option maxRecDepth 100000 in
set_option maxHeartbeats 1000000 in
theorem zzLsh_any (v : Value) (xs : List Int) (s : Nat) (w : World) (hx : Sl .u64 w v xs) (hd : DG 18446744073709551616 xs) (hl : xs.length ≤ 1000000) (hs : s < 64) :
    Calls Try.prog 56 #[v, .int .u64 (s : Int)] w (RetShl w xs s) := by
  have HX := Lib.hid hx
  have HD := Lib.hid hd
  obtain ⟨A, cap, rfl, _, _, _⟩ := hx
  clear hd
  go_enter Try.func56, Try.ntmps56
  go_wp2_with (first
    | (at_make; refine wp_mk rfl (.tmp 9) (.tmp 9) _ rfl .u64 68 8 ty_big (by omega) xs.length rfl rfl (by omega) ?_; intro g0 w0 hg0 row0 f0)
    | (go_at_call 68; refine (zzIn_any _ xs _ (HX.out.fr0 f0) hl).mono ?_; rintro e w1 ⟨b1, rfl, row1, hb1, f1⟩)
    | (go_at_call 80; have hr := row0.fr f1 (by simp); have hlt := row0.lt; refine (lshVU_any g0 0 xs.length b1 0 xs.length xs.length s _ xs _ hr (by simp) rfl (row1.src (Nat.zero_le _)) HD.out hs (.inl (by omega)) (Nat.le_refl _) (Nat.le_refl _) (by unfold maxLen; omega) (by omega)).mono ?_; rintro e w2 ⟨zs, c, rfl, row2, f2, hzl, hzd, hc0, hc1, hv⟩; rw [spl_all (by rw [hzl]; simp)] at row2; have HZL := Lib.hid hzl; have HV := Lib.hid hv; clear hzl hv)
    | (go_at_call 71; go_in)
    | (go_at_call 72; have sl2 := row2.sl (by rw [HZL.out]; omega); rw [HZL.out] at sl2; refine (zzOut_any _ zs _ sl2 (by rw [HZL.out]; omega)).mono ?_; rintro e w3 ⟨v3, rfl, sl3, f3⟩))
  go_ret2
  have sl3' := sl3
  obtain ⟨A3, c3, rfl, _, _, _⟩ := sl3
  rw [HZL.out] at sl3' ⊢
  exact ⟨A3, c3, zs, c, rfl, sl3', HZL.out, hzd, hc0, by have := pow_lt_W hs; omega, by rw [HV.out]; exact Int.mul_comm _ _, (fr_new (f0.t f1) f2 hg0).t f3⟩
set_option maxRecDepth 100000 in
theorem implLsh_any (v : Value) (xs : List Int) (s : Nat) (w : World) (hx : Sl .u64 w v xs) (hd : DG 18446744073709551616 xs) (hl : xs.length ≤ 1000000) (hs : s < 64) :
    Calls Try.prog 34 #[v, .int .u64 (s : Int)] w (RetShl w xs s) := by
  have HX := Lib.hid hx
  have HD := Lib.hid hd
  clear hx hd
  go_enter Try.func34, Try.ntmps34
  go_wp2_with (first
    | (go_at_call 57; refine (clone_any v xs _ HX.out hl).mono ?_; rintro e w1 ⟨v1, rfl, sl1, f1⟩)
    | (go_at_call 56; refine (zzLsh_any _ xs s _ sl1 HD.out hl hs).mono ?_; rintro e w2 ⟨A2, c2, zs, c, rfl, sl2, hzl, hzd, hc0, hc1, hv, f2⟩; have HZL := Lib.hid hzl; have HV := Lib.hid hv; clear hzl hv))
  go_ret2
  exact ⟨A2, c2, zs, c, rfl, sl2, HZL.out, hzd, hc0, hc1, HV.out, f1.t f2⟩
set_option maxRecDepth 100000 in
set_option maxHeartbeats 1000000 in
theorem zzRsh_any (v : Value) (xs : List Int) (s : Nat) (w : World) (hx : Sl .u64 w v xs) (hd : DG 18446744073709551616 xs) (hl : xs.length ≤ 1000000) (hs : s < 64) :
    Calls Try.prog 58 #[v, .int .u64 (s : Int)] w (RetShr w xs s) := by
  have HX := Lib.hid hx
  have HD := Lib.hid hd
  obtain ⟨A, cap, rfl, _, _, _⟩ := hx
  clear hd
  go_enter Try.func58, Try.ntmps58
  go_wp2_with (first
    | (at_make; refine wp_mk rfl (.tmp 9) (.tmp 9) _ rfl .u64 68 8 ty_big (by omega) xs.length rfl rfl (by omega) ?_; intro g0 w0 hg0 row0 f0)
    | (go_at_call 68; refine (zzIn_any _ xs _ (HX.out.fr0 f0) hl).mono ?_; rintro e w1 ⟨b1, rfl, row1, hb1, f1⟩)
    | (go_at_call 81; have hr := row0.fr f1 (by simp); have hlt := row0.lt; refine (rshVU_any g0 0 xs.length b1 0 xs.length xs.length s _ xs _ hr (by simp) rfl (row1.src (Nat.zero_le _)) HD.out hs (.inl (by omega)) (Nat.le_refl _) (Nat.le_refl _) (by unfold maxLen; omega) (by omega)).mono ?_; rintro e w2 ⟨zs, c, rfl, row2, f2, hzl, hzd, hc0, hc1, hv⟩; rw [spl_all (by rw [hzl]; simp)] at row2; have HZL := Lib.hid hzl; have HV := Lib.hid hv; clear hzl hv)
    | (go_at_call 73; go_in)
    | (go_at_call 72; have sl2 := row2.sl (by rw [HZL.out]; omega); rw [HZL.out] at sl2; refine (zzOut_any _ zs _ sl2 (by rw [HZL.out]; omega)).mono ?_; rintro e w3 ⟨v3, rfl, sl3, f3⟩))
  go_ret2
  have sl3' := sl3
  obtain ⟨A3, c3, rfl, _, _, _⟩ := sl3
  rw [HZL.out] at sl3' ⊢
  exact ⟨A3, c3, zs, c, rfl, sl3', HZL.out, hzd, hc0, hc1, HV.out, (fr_new (f0.t f1) f2 hg0).t f3⟩
set_option maxRecDepth 100000 in
theorem implRsh_any (v : Value) (xs : List Int) (s : Nat) (w : World) (hx : Sl .u64 w v xs) (hd : DG 18446744073709551616 xs) (hl : xs.length ≤ 1000000) (hs : s < 64) :
    Calls Try.prog 37 #[v, .int .u64 (s : Int)] w (RetShr w xs s) := by
  have HX := Lib.hid hx
  have HD := Lib.hid hd
  clear hx hd
  go_enter Try.func37, Try.ntmps37
  go_wp2_with (first
    | (go_at_call 57; refine (clone_any v xs _ HX.out hl).mono ?_; rintro e w1 ⟨v1, rfl, sl1, f1⟩)
    | (go_at_call 58; refine (zzRsh_any _ xs s _ sl1 HD.out hl hs).mono ?_; rintro e w2 ⟨A2, c2, zs, c, rfl, sl2, hzl, hzd, hc0, hc1, hv, f2⟩; have HZL := Lib.hid hzl; have HV := Lib.hid hv; clear hzl hv))
  go_ret2
  exact ⟨A2, c2, zs, c, rfl, sl2, HZL.out, hzd, hc0, hc1, HV.out, f1.t f2⟩
set_option maxRecDepth 100000 in
set_option maxHeartbeats 2000000 in
theorem law_FnLshVU (v : Value) (xs : List Int) (sh : Int) (w : World) (hx : Sl .u64 w v xs) (hd : DG 18446744073709551616 xs) (s0 : 0 ≤ sh) (s1 : sh < 256) :
    Calls Try.prog 10 #[v, .int .u8 sh] w fun e w' => e = .returned (.bool true) ∧ Fr [] w w' := by
  have HX := Lib.hid hx
  have HD := Lib.hid hd
  obtain ⟨A, cap, rfl, hlc, hm, hs⟩ := hx
  unfold maxLen at hm
  clear hs hd
  by_cases h1 : 2147483647 < xs.length
  · go_enter Try.func10, Try.ntmps10
    go_wp2_with fail
    go_ret
    exact ⟨rfl, Fr.refl _ _⟩
  · by_cases h2 : xs.length ≤ 100
    · by_cases h3 : xs.length = 0
      · have hz : ((xs.length : Int) == 0) = true := by rw [h3]; rfl
        clear h3
        go_enter Try.func10, Try.ntmps10
        go_wp2_with (go_at_call 22; refine (few1_yes 100 A _ _ _ _ (by omega) h2).mono ?_; rintro e w1 ⟨rfl, rfl⟩)
        go_ret
        exact ⟨rfl, (Fr.refl _ _).alloc _⟩
      · have hz : ((xs.length : Int) == 0) = false := by rw [beq_eq_false_iff_ne]; omega
        obtain ⟨k, hk⟩ : ∃ k : Nat, sh % 64 = (k : Int) := ⟨(sh % 64).toNat, by omega⟩
        have hk2 : k < 64 := by omega
        have f0 : Fr [] w (w.alloc (.cells #[.slice A xs.length cap] 35)) := (Fr.refl _ _).alloc _
        have C1 := Lib.hid (implLsh_any _ xs k _ (HX.out.fr0 f0) HD.out (by omega) hk2)
        have T1 : True := trivial
        have T2 : True := trivial
        have T3 : True := trivial
        clear h3
        go_enter Try.func10, Try.ntmps10
        go_wp2_with (first
          | (go_at_call 22; refine (few1_yes 100 A _ _ _ _ (by omega) h2).mono ?_; rintro e w1 ⟨rfl, rfl⟩)
          | (go_at_call 34; refine (Hid.out C1).mono ?_; clear C1; rintro e w2 ⟨A2, c2, zs, c, rfl, sl2, hzl, hzd, hc0, hc1, hv, f2⟩; have HZL := Lib.hid hzl; have HV := Lib.hid hv; clear hzl hv)
          | (go_at_call 35; refine (carry_any _ zs c _ sl2 hzd (by rw [HZL.out]; omega) hc0 hc1).mono ?_; rintro e w3 ⟨v3, rfl, sn3, f3⟩; rw [HZL.out, HV.out] at sn3)
          | (go_at_call 25; refine (of_any _ xs _ (((HX.out.fr0 f0).fr0 f2).fr0 f3) HD.out (by omega)).mono ?_; rintro e w4 ⟨v4, rfl, sn4, f4⟩)
          | (go_at_call 36; refine (shifted_any _ _ k _ sn4 (words_BIG HD.out (by omega)) (by omega)).mono ?_; rintro e w5 ⟨v5, rfl, sn5, f5⟩)
          | (go_at_call 19; refine (cmp_same _ _ _ _ ((sn3.fr0 f4).fr0 f5) sn5).mono ?_; rintro e w6 ⟨rfl, f6⟩))
        go_ret
        exact ⟨rfl, ((((f0.t f2).t f3).t f4).t f5).t f6⟩
    · go_enter Try.func10, Try.ntmps10
      go_wp2_with (go_at_call 22; refine (few1_no 100 A _ _ _ _ (by omega) (by omega) (by omega)).mono ?_; rintro e w1 ⟨rfl, rfl⟩)
      go_ret
      exact ⟨rfl, (Fr.refl _ _).alloc _⟩
set_option maxRecDepth 100000 in
set_option maxHeartbeats 2000000 in
theorem law_FnRshVU (v : Value) (xs : List Int) (sh : Int) (w : World) (hx : Sl .u64 w v xs) (hd : DG 18446744073709551616 xs) (s0 : 0 ≤ sh) (s1 : sh < 256) :
    Calls Try.prog 11 #[v, .int .u8 sh] w fun e w' => e = .returned (.bool true) ∧ Fr [] w w' := by
  have HX := Lib.hid hx
  have HD := Lib.hid hd
  obtain ⟨A, cap, rfl, hlc, hm, hs⟩ := hx
  unfold maxLen at hm
  clear hs hd
  by_cases h1 : 2147483647 < xs.length
  · go_enter Try.func11, Try.ntmps11
    go_wp2_with fail
    go_ret
    exact ⟨rfl, Fr.refl _ _⟩
  · by_cases h2 : xs.length ≤ 100
    · by_cases h3 : xs.length = 0
      · have hz : ((xs.length : Int) == 0) = true := by rw [h3]; rfl
        clear h3
        go_enter Try.func11, Try.ntmps11
        go_wp2_with (go_at_call 22; refine (few1_yes 100 A _ _ _ _ (by omega) h2).mono ?_; rintro e w1 ⟨rfl, rfl⟩)
        go_ret
        exact ⟨rfl, (Fr.refl _ _).alloc _⟩
      · have hz : ((xs.length : Int) == 0) = false := by rw [beq_eq_false_iff_ne]; omega
        obtain ⟨k, hk⟩ : ∃ k : Nat, sh % 64 = (k : Int) := ⟨(sh % 64).toNat, by omega⟩
        have hk2 : k < 64 := by omega
        have f0 : Fr [] w (w.alloc (.cells #[.slice A xs.length cap] 35)) := (Fr.refl _ _).alloc _
        have C1 := Lib.hid (implRsh_any _ xs k _ (HX.out.fr0 f0) HD.out (by omega) hk2)
        have T1 : True := trivial
        have T2 : True := trivial
        have T3 : True := trivial
        clear h3
        go_enter Try.func11, Try.ntmps11
        go_wp2_with (first
          | (go_at_call 22; refine (few1_yes 100 A _ _ _ _ (by omega) h2).mono ?_; rintro e w1 ⟨rfl, rfl⟩)
          | (go_at_call 37; refine (Hid.out C1).mono ?_; clear C1; rintro e w2 ⟨A2, c2, zs, c, rfl, sl2, hzl, hzd, hc0, hc1, hv, f2⟩; have HZL := Lib.hid hzl; have HV := Lib.hid hv; clear hzl hv)
          | (go_at_call 25; clear T1; have sl2' := sl2; rw [← HZL.out] at sl2'; refine (of_any _ zs _ sl2 hzd (by rw [HZL.out]; omega)).mono ?_; rintro e w3 ⟨v3, rfl, sn3, f3⟩)
          | (go_at_call 36; clear T2; refine (shifted_any _ _ 64 _ sn3 (words_BIG hzd (by rw [HZL.out]; omega)) (by omega)).mono ?_; rintro e w4 ⟨v4, rfl, sn4, f4⟩; rw [show (2 : Int) ^ 64 = 18446744073709551616 from rfl] at sn4)
          | (go_at_call 18; refine (of1_any c _ hc0 hc1).mono ?_; rintro e w5 ⟨v5, rfl, sn5, f5⟩)
          | (go_at_call 38; refine (add_any _ _ _ c _ (sn4.fr0 f5) sn5 (shl64_BIG hzd (by rw [HZL.out]; omega)) (word_BIG hc1)).mono ?_; rintro e w6 ⟨v6, rfl, sn6, f6⟩; rw [HV.out] at sn6)
          | (go_at_call 25; clear T3; refine (of_any _ xs _ ((((((HX.out.fr0 f0).fr0 f2).fr0 f3).fr0 f4).fr0 f5).fr0 f6) HD.out (by omega)).mono ?_; rintro e w7 ⟨v7, rfl, sn7, f7⟩)
          | (go_at_call 36; rw [shift_arg hk2]; refine (shifted_any _ _ (64 - k) _ sn7 (words_BIG HD.out (by omega)) (by omega)).mono ?_; rintro e w8 ⟨v8, rfl, sn8, f8⟩)
          | (go_at_call 19; refine (cmp_same _ _ _ _ ((sn6.fr0 f7).fr0 f8) sn8).mono ?_; rintro e w9 ⟨rfl, f9⟩))
        go_ret
        exact ⟨rfl, (((((((f0.t f2).t f3).t f4).t f5).t f6).t f7).t f8).t f9⟩
    · go_enter Try.func11, Try.ntmps11
      go_wp2_with (go_at_call 22; refine (few1_no 100 A _ _ _ _ (by omega) (by omega) (by omega)).mono ?_; rintro e w1 ⟨rfl, rfl⟩)
      go_ret
      exact ⟨rfl, (Fr.refl _ _).alloc _⟩
end Go.Proofs.Ytnopbmfdjicnoaa
