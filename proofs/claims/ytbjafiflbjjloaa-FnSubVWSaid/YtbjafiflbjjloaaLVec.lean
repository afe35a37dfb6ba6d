/-
  ZZAddVV, ZZSubVV, ZZMulAddVWW, ZZAddMulVVWW, impl.* and the walks of their laws. Conditions: the words can be read.
-/
import Derived.Test.YtbjafiflbjjloaaVec
import Derived.Test.YtbjafiflbjjloaaSpecS
import Derived.Test.YtbjafiflbjjloaaSpecB
import Derived.Test.YtbjafiflbjjloaaSpecC
import Derived.Test.YtbjafiflbjjloaaFew
set_option linter.unusedSimpArgs false
set_option linter.unusedVariables false
namespace Go.Proofs.Ytbjafiflbjjloaa
open Go.Big Go.RowKit

theorem fr_new' {w w1 w2 : World} {b : Nat} (h : Fr [] w w1) (h' : Fr [b] w1 w2) (hb : w.heap.size ≤ b) : Fr [] w w2 :=
  h.trans h' (fun x hx hlt => by simp at hx; omega)
def RetVec (n : Nat) (R : List Int → Int → Prop) (w : World) (e : Ending) (w' : World) : Prop :=
  ∃ (A : Option Addr) (cap : Nat) (zs : List Int) (c : Int), e = .returned (.tuple #[.slice A n cap, .int .u64 c]) ∧ Sl .u64 w' (.slice A n cap) zs ∧ zs.length = n ∧ DG 18446744073709551616 zs ∧ R zs c ∧ Fr [] w w'
theorem zzIn_n (v : Value) (xs : List Int) (n : Nat) (w : World) (hx : Sl .u64 w v xs) (hn : xs.length = n) (hl : n ≤ 1000000) :
    Calls Try.prog 63 #[v] w fun e w' => ∃ b, e = .returned (.slice (some ⟨b, 0, none⟩) n n) ∧ Row .u64 72 w' b xs ∧ w.heap.size ≤ b ∧ Fr [] w w' := by
  subst hn; exact zzIn_any v xs w hx hl
theorem zzOut_n (b : Nat) (xs : List Int) (n : Nat) (w : World) (hx : Row .u64 72 w b xs) (hn : xs.length = n) (hl : n ≤ 1000000) :
    Calls Try.prog 61 #[.slice (some ⟨b, 0, none⟩) n n] w fun e w' => ∃ A cap, e = .returned (.slice A n cap) ∧ Sl .u64 w' (.slice A n cap) xs ∧ Fr [] w w' := by
  subst hn
  refine (zzOut_any _ xs w (hx.sl (by omega)) (by omega)).mono ?_
  rintro e w' ⟨v, rfl, sl, f⟩
  have sl' := sl
  obtain ⟨A, cap, rfl, _, _, _⟩ := sl
  exact ⟨A, cap, rfl, sl', f⟩
theorem carry_n (v : Value) (xs : List Int) (n : Nat) (c p : Int) (w : World) (hx : Sl .u64 w v xs) (hn : xs.length = n) (hd : DG 18446744073709551616 xs) (hl : n < 1000000) (h0 : 0 ≤ c) (h1 : c < 18446744073709551616) (hp : val 18446744073709551616 xs + 18446744073709551616 ^ n * c = p) :
    Calls Try.prog 22 #[v, .int .u64 c] w (RetSN p w) := by
  subst hn; subst hp; exact carry_any v xs c w hx hd hl h0 h1
theorem words_n {xs : List Int} {n : Nat} (hd : DG 18446744073709551616 xs) (hn : xs.length = n) (h : n ≤ 100) : val 18446744073709551616 xs < 18446744073709551616 ^ n ∧ 0 ≤ val 18446744073709551616 xs := by
  subst hn; exact ⟨val_lt (by omega) hd, val_nonneg (by omega) hd⟩
theorem mul_BIG {x y : Int} {n : Nat} (h0 : 0 ≤ x) (h1 : x < 18446744073709551616 ^ n) (h2 : 0 ≤ y) (h3 : y < 18446744073709551616) (h : n ≤ 100) : x * y < BIG := by
  refine lt_BIG64 (n + 1) ?_ (by omega)
  rw [Int.pow_succ]
  exact Int.lt_of_le_of_lt (Int.mul_le_mul_of_nonneg_left (Int.le_of_lt h3) h0) (Int.mul_lt_mul_of_pos_right h1 (by omega))
theorem muladd_BIG {x y r : Int} {n : Nat} (h0 : 0 ≤ x) (h1 : x < 18446744073709551616 ^ n) (h2 : 0 ≤ y) (h3 : y < 18446744073709551616) (hr0 : 0 ≤ r) (hr : r < 18446744073709551616 ^ n) (h : n ≤ 100) : r + x * y < BIG := by
  refine lt_BIG64 (n + 1) ?_ (by omega)
  rw [Int.pow_succ]
  have e1 : x * y ≤ (18446744073709551616 ^ n - 1) * 18446744073709551615 :=
    Int.le_trans (Int.mul_le_mul_of_nonneg_left (show y ≤ 18446744073709551615 by omega) h0) (Int.mul_le_mul_of_nonneg_right (show x ≤ 18446744073709551616 ^ n - 1 by omega) (by omega))
  omega
theorem mul_BIG' {c : Int} {n : Nat} (h0 : 0 ≤ c) (h1 : c ≤ 1) (h : n ≤ 100) : 18446744073709551616 ^ n * c < BIG := by
  refine lt_BIG64 (n + 1) ?_ (by omega)
  rw [Int.pow_succ]
  exact Int.mul_lt_mul_of_pos_left (by omega) (Int.pow_pos (by omega))
theorem shl_arg (n : Nat) : (64 * (n : Int)) = ((64 * n : Nat) : Int) := by omega
theorem pow_64n (n : Nat) : (2 : Int) ^ (64 * n) = 18446744073709551616 ^ n := by rw [Int.pow_mul]; rfl

set_option maxRecDepth 100000 in
set_option maxHeartbeats 1000000 in
theorem zz_add (v : Value) (xs : List Int) (v' : Value) (ys : List Int)  (n : Nat) (w : World) (hx : Sl .u64 w v xs) (hd : DG 18446744073709551616 xs) (hn : xs.length = n) (hy : Sl .u64 w v' ys) (hd' : DG 18446744073709551616 ys) (hn' : ys.length = n) (hl : n ≤ 1000000)  :
    Calls Try.prog 48 #[v, v'] w (RetVec n (fun zs c => 0 ≤ c ∧ c ≤ 1 ∧ val 18446744073709551616 zs + 18446744073709551616 ^ n * c = val 18446744073709551616 xs + val 18446744073709551616 ys) w) := by
  have hx' := hx
  obtain ⟨A, cap, rfl, _, _, _⟩ := hx
  rw [hn] at hx' ⊢
  have HX := Lib.hid hx'
  have HD := Lib.hid hd
  have HN := Lib.hid hn
  clear hx' hd hn
  have HY := Lib.hid hy
  have HD' := Lib.hid hd'
  have HN' := Lib.hid hn'
  clear hy hd' hn'
  have T1 : True := trivial
  go_enter Try.func48, Try.ntmps48
  go_wp2_with (first
    | (at_make; refine wp_mk rfl (.tmp 9) (.tmp 9) _ rfl .u64 72 8 ty_big (by omega) n rfl rfl (by omega) ?_; intro g0 w0 hg0 row0 f0)
    | (go_at_call 63; clear T1; refine (zzIn_n _ xs n _ (HX.out.fr0 f0) HN.out hl).mono ?_; rintro e w1 ⟨b1, rfl, row1, hb1, f1⟩)
    | (go_at_call 63; refine (zzIn_n _ ys n _ ((HY.out.fr0 f0).fr0 f1) HN'.out hl).mono ?_; rintro e w2 ⟨b2, rfl, row2, hb2, f2⟩)
    | (go_at_call 78; have hr := (row0.fr f1 (by simp)).fr f2 (by simp); have hlt := row0.lt; have hlt1 := f1.size; have hs1 := (row1.fr f2 (by simp)); refine (addVV_any g0 0 n b1 0 n b2 0 n n _ xs ys  _ hr (by simp) HN.out (hs1.src (Nat.zero_le _)) HD.out (.inl (by omega)) HN'.out (row2.src (Nat.zero_le _)) HD'.out (.inl (by omega)) (by omega) ).mono ?_; rintro e w3 ⟨zs, c, rfl, row3, f3, hzl, hzd, hR⟩; rw [spl_all (by rw [hzl]; simp)] at row3; have HZL := Lib.hid hzl; have HR := Lib.hid hR; clear hzl hR)
    | (go_at_call 65; go_in)
    | (go_at_call 61; refine (zzOut_n _ zs n _ row3 HZL.out hl).mono ?_; rintro e w4 ⟨A4, c4, rfl, sl4, f4⟩))
  go_ret2
  exact ⟨A4, c4, zs, c, rfl, sl4, HZL.out, hzd, HR.out, (fr_new' ((f0.t f1).t f2) f3 hg0).t f4⟩
set_option maxRecDepth 100000 in
theorem impl_add (v : Value) (xs : List Int) (v' : Value) (ys : List Int)  (n : Nat) (w : World) (hx : Sl .u64 w v xs) (hd : DG 18446744073709551616 xs) (hn : xs.length = n) (hy : Sl .u64 w v' ys) (hd' : DG 18446744073709551616 ys) (hn' : ys.length = n) (hl : n ≤ 1000000)  :
    Calls Try.prog 20 #[v, v'] w (RetVec n (fun zs c => 0 ≤ c ∧ c ≤ 1 ∧ val 18446744073709551616 zs + 18446744073709551616 ^ n * c = val 18446744073709551616 xs + val 18446744073709551616 ys) w) := by
  have hx' := hx
  obtain ⟨A, cap, rfl, _, _, _⟩ := hx
  rw [hn] at hx' ⊢
  have HX := Lib.hid hx'
  have HD := Lib.hid hd
  have HN := Lib.hid hn
  clear hx' hd hn
  have hy' := hy
  obtain ⟨B, cap', rfl, _, _, _⟩ := hy
  rw [hn'] at hy' ⊢
  have HY := Lib.hid hy'
  have HD' := Lib.hid hd'
  have HN' := Lib.hid hn'
  clear hy' hd' hn'
  have T1 : True := trivial
  go_enter Try.func20, Try.ntmps20
  go_wp2_with (first
    | (go_at_call 49; clear T1; refine (clone_any _ xs _ HX.out (by rw [HN.out]; exact hl)).mono ?_; rintro e w1 ⟨v1, rfl, sl1, f1⟩)
    | (go_at_call 49; refine (clone_any _ ys _ (HY.out.fr0 f1) (by rw [HN'.out]; exact hl)).mono ?_; rintro e w2 ⟨v2, rfl, sl2, f2⟩)
    | (go_at_call 48; refine (zz_add _ xs _ ys  n _ (sl1.fr0 f2) HD.out HN.out sl2 HD'.out HN'.out hl ).mono ?_; rintro e w3 ⟨A3, c3, zs, c, rfl, sl3, hzl, hzd, hR, f3⟩; have HZL := Lib.hid hzl; have HR := Lib.hid hR; clear hzl hR))
  go_ret2
  exact ⟨A3, c3, zs, c, rfl, sl3, HZL.out, hzd, HR.out, (f1.t f2).t f3⟩
set_option maxRecDepth 100000 in
set_option maxHeartbeats 2000000 in
theorem law_FnAddVV (v : Value) (xs : List Int) (v' : Value) (ys : List Int)  (w : World) (hx : Sl .u64 w v xs) (hd : DG 18446744073709551616 xs) (hy : Sl .u64 w v' ys) (hd' : DG 18446744073709551616 ys)  :
    Calls Try.prog 4 #[v, v'] w fun e w' => e = .returned (.bool true) ∧ Fr [] w w' := by
  have HX := Lib.hid hx
  have HD := Lib.hid hd
  obtain ⟨A, cap, rfl, hlc, hm, hs⟩ := hx
  unfold maxLen at hm
  clear hs hd
  obtain ⟨n, hn⟩ : ∃ n, xs.length = n := ⟨_, rfl⟩
  rw [hn] at HX hlc ⊢
  have HN := Lib.hid hn
  clear hn
  have HY := Lib.hid hy
  have HD' := Lib.hid hd'
  obtain ⟨B, cap', rfl, hlc', hm', hs'⟩ := hy
  unfold maxLen at hm'
  clear hs' hd'
  obtain ⟨m', hn'⟩ : ∃ m', ys.length = m' := ⟨_, rfl⟩
  rw [hn'] at HY hlc' ⊢
  have HN' := Lib.hid hn'
  clear hn'
  by_cases hb : 2147483647 < n
  · go_enter Try.func4, Try.ntmps4
    go_wp2_with fail
    go_ret
    exact ⟨rfl, Fr.refl _ _⟩
  by_cases hb' : 2147483647 < m'
  · go_enter Try.func4, Try.ntmps4
    go_wp2_with fail
    go_ret
    exact ⟨rfl, Fr.refl _ _⟩
  by_cases h2 : n ≤ 100 ∧ m' ≤ 100
  case neg =>
    go_enter Try.func4, Try.ntmps4
    go_wp2_with (go_at_call 14; refine (few2_no 100 A B _ _ _ _ _ _ (by omega) (by omega) (by omega) (by omega)).mono ?_; rintro e w1 ⟨rfl, rfl⟩)
    go_ret
    exact ⟨rfl, (Fr.refl _ _).alloc _⟩
  obtain ⟨h2, h2'⟩ := h2
  by_cases h3 : n = m'
  case neg =>
    go_enter Try.func4, Try.ntmps4
    go_wp2_with (go_at_call 14; refine (few2_yes 100 A B _ _ _ _ _ _ (by omega) h2 h2').mono ?_; rintro e w1 ⟨rfl, rfl⟩)
    go_ret
    exact ⟨rfl, (Fr.refl _ _).alloc _⟩
  subst h3
  clear hb' h2' hlc' hm'
  by_cases h4 : n = 0
  · have hz : ((n : Int) == 0) = true := by rw [h4]; rfl
    clear h4
    go_enter Try.func4, Try.ntmps4
    go_wp2_with (go_at_call 14; refine (few2_yes 100 A B _ _ _ _ _ _ (by omega) h2 h2).mono ?_; rintro e w1 ⟨rfl, rfl⟩)
    go_ret
    exact ⟨rfl, (Fr.refl _ _).alloc _⟩
  have hz : ((n : Int) == 0) = false := by rw [beq_eq_false_iff_ne]; omega
  have f0 : Fr [] w (w.alloc (.cells #[.slice A n cap, .slice B n cap'] 22)) := (Fr.refl _ _).alloc _
  clear h4
  obtain ⟨X, hX⟩ : ∃ X, X = val 18446744073709551616 xs := ⟨_, rfl⟩
  have hXb := words_n HD.out HN.out h2
  rw [← hX] at hXb
  have HXv := Lib.hid hX
  have HXB := Lib.hid hXb
  clear hX hXb
  obtain ⟨Y, hY⟩ : ∃ Y, Y = val 18446744073709551616 ys := ⟨_, rfl⟩
  have hYb := words_n HD'.out HN'.out h2
  rw [← hY] at hYb
  have HYv := Lib.hid hY
  have HYB := Lib.hid hYb
  clear hY hYb
  have C1 := Lib.hid (impl_add _ xs _ ys  n _ (HX.out.fr0 f0) HD.out HN.out (HY.out.fr0 f0) HD'.out HN'.out (by omega) )
  have T1 : True := trivial
  have T2 : True := trivial
  have T3 : True := trivial
  have T4 : True := trivial
  go_enter Try.func4, Try.ntmps4
  go_wp2_with (first
    | (go_at_call 14; refine (few2_yes 100 A B _ _ _ _ _ _ (by omega) h2 h2).mono ?_; rintro e w1 ⟨rfl, rfl⟩)
    | (go_at_call 20; refine (Hid.out C1).mono ?_; clear C1; rintro e w2 ⟨A2, c2, zs, c, rfl, sl2, hzl, hzd, hR, f2⟩; have HZL := Lib.hid hzl; obtain ⟨hc0, hc1, hv⟩ := hR; rw [← HXv.out, ← HYv.out] at hv; have HV := Lib.hid hv; clear hzl hv)
    | (go_at_call 22; refine (carry_n _ zs n c _ _ sl2 HZL.out hzd (by omega) hc0 (by omega) HV.out).mono ?_; rintro e w3 ⟨v3, rfl, sn3, f3⟩)
    | (go_at_call 16; clear T1; refine (of_any _ xs _ (((HX.out.fr0 f0).fr0 f2).fr0 f3) HD.out (by rw [HN.out]; omega)).mono ?_; rintro e w4 ⟨v4, rfl, sn4, f4⟩; rw [← HXv.out] at sn4)
    | (go_at_call 16; refine (of_any _ ys _ ((((HY.out.fr0 f0).fr0 f2).fr0 f3).fr0 f4) HD'.out (by rw [HN'.out]; omega)).mono ?_; rintro e w5 ⟨v5, rfl, sn5, f5⟩; rw [← HYv.out] at sn5)
    | (go_at_call 23; refine (add_any _ _ X Y _ (sn4.fr0 f5) sn5 (lt_BIG64 n HXB.out.1 (by omega)) (lt_BIG64 n HYB.out.1 (by omega))).mono ?_; rintro e w6 ⟨v6, rfl, sn6, f6⟩)
    | (go_at_call 21; refine (cmp_same _ _ _ _ (((sn3.fr0 f4).fr0 f5).fr0 f6) sn6).mono ?_; rintro e w7 ⟨rfl, f7⟩))
  go_ret
  exact ⟨rfl, ((((((f0.t f2).t f3).t f4).t f5).t f6).t f7)⟩
set_option maxRecDepth 100000 in
set_option maxHeartbeats 1000000 in
theorem zz_sub (v : Value) (xs : List Int) (v' : Value) (ys : List Int)  (n : Nat) (w : World) (hx : Sl .u64 w v xs) (hd : DG 18446744073709551616 xs) (hn : xs.length = n) (hy : Sl .u64 w v' ys) (hd' : DG 18446744073709551616 ys) (hn' : ys.length = n) (hl : n ≤ 1000000)  :
    Calls Try.prog 50 #[v, v'] w (RetVec n (fun zs c => 0 ≤ c ∧ c ≤ 1 ∧ val 18446744073709551616 zs + val 18446744073709551616 ys = val 18446744073709551616 xs + 18446744073709551616 ^ n * c) w) := by
  have hx' := hx
  obtain ⟨A, cap, rfl, _, _, _⟩ := hx
  rw [hn] at hx' ⊢
  have HX := Lib.hid hx'
  have HD := Lib.hid hd
  have HN := Lib.hid hn
  clear hx' hd hn
  have HY := Lib.hid hy
  have HD' := Lib.hid hd'
  have HN' := Lib.hid hn'
  clear hy hd' hn'
  have T1 : True := trivial
  go_enter Try.func50, Try.ntmps50
  go_wp2_with (first
    | (at_make; refine wp_mk rfl (.tmp 9) (.tmp 9) _ rfl .u64 72 8 ty_big (by omega) n rfl rfl (by omega) ?_; intro g0 w0 hg0 row0 f0)
    | (go_at_call 63; clear T1; refine (zzIn_n _ xs n _ (HX.out.fr0 f0) HN.out hl).mono ?_; rintro e w1 ⟨b1, rfl, row1, hb1, f1⟩)
    | (go_at_call 63; refine (zzIn_n _ ys n _ ((HY.out.fr0 f0).fr0 f1) HN'.out hl).mono ?_; rintro e w2 ⟨b2, rfl, row2, hb2, f2⟩)
    | (go_at_call 79; have hr := (row0.fr f1 (by simp)).fr f2 (by simp); have hlt := row0.lt; have hlt1 := f1.size; have hs1 := (row1.fr f2 (by simp)); refine (subVV_any g0 0 n b1 0 n b2 0 n n _ xs ys  _ hr (by simp) HN.out (hs1.src (Nat.zero_le _)) HD.out (.inl (by omega)) HN'.out (row2.src (Nat.zero_le _)) HD'.out (.inl (by omega)) (by omega) ).mono ?_; rintro e w3 ⟨zs, c, rfl, row3, f3, hzl, hzd, hR⟩; rw [spl_all (by rw [hzl]; simp)] at row3; have HZL := Lib.hid hzl; have HR := Lib.hid hR; clear hzl hR)
    | (go_at_call 66; go_in)
    | (go_at_call 61; refine (zzOut_n _ zs n _ row3 HZL.out hl).mono ?_; rintro e w4 ⟨A4, c4, rfl, sl4, f4⟩))
  go_ret2
  exact ⟨A4, c4, zs, c, rfl, sl4, HZL.out, hzd, HR.out, (fr_new' ((f0.t f1).t f2) f3 hg0).t f4⟩
set_option maxRecDepth 100000 in
theorem impl_sub (v : Value) (xs : List Int) (v' : Value) (ys : List Int)  (n : Nat) (w : World) (hx : Sl .u64 w v xs) (hd : DG 18446744073709551616 xs) (hn : xs.length = n) (hy : Sl .u64 w v' ys) (hd' : DG 18446744073709551616 ys) (hn' : ys.length = n) (hl : n ≤ 1000000)  :
    Calls Try.prog 24 #[v, v'] w (RetVec n (fun zs c => 0 ≤ c ∧ c ≤ 1 ∧ val 18446744073709551616 zs + val 18446744073709551616 ys = val 18446744073709551616 xs + 18446744073709551616 ^ n * c) w) := by
  have hx' := hx
  obtain ⟨A, cap, rfl, _, _, _⟩ := hx
  rw [hn] at hx' ⊢
  have HX := Lib.hid hx'
  have HD := Lib.hid hd
  have HN := Lib.hid hn
  clear hx' hd hn
  have hy' := hy
  obtain ⟨B, cap', rfl, _, _, _⟩ := hy
  rw [hn'] at hy' ⊢
  have HY := Lib.hid hy'
  have HD' := Lib.hid hd'
  have HN' := Lib.hid hn'
  clear hy' hd' hn'
  have T1 : True := trivial
  go_enter Try.func24, Try.ntmps24
  go_wp2_with (first
    | (go_at_call 49; clear T1; refine (clone_any _ xs _ HX.out (by rw [HN.out]; exact hl)).mono ?_; rintro e w1 ⟨v1, rfl, sl1, f1⟩)
    | (go_at_call 49; refine (clone_any _ ys _ (HY.out.fr0 f1) (by rw [HN'.out]; exact hl)).mono ?_; rintro e w2 ⟨v2, rfl, sl2, f2⟩)
    | (go_at_call 50; refine (zz_sub _ xs _ ys  n _ (sl1.fr0 f2) HD.out HN.out sl2 HD'.out HN'.out hl ).mono ?_; rintro e w3 ⟨A3, c3, zs, c, rfl, sl3, hzl, hzd, hR, f3⟩; have HZL := Lib.hid hzl; have HR := Lib.hid hR; clear hzl hR))
  go_ret2
  exact ⟨A3, c3, zs, c, rfl, sl3, HZL.out, hzd, HR.out, (f1.t f2).t f3⟩
set_option maxRecDepth 100000 in
set_option maxHeartbeats 2000000 in
theorem law_FnSubVV (v : Value) (xs : List Int) (v' : Value) (ys : List Int)  (w : World) (hx : Sl .u64 w v xs) (hd : DG 18446744073709551616 xs) (hy : Sl .u64 w v' ys) (hd' : DG 18446744073709551616 ys)  :
    Calls Try.prog 5 #[v, v'] w fun e w' => e = .returned (.bool true) ∧ Fr [] w w' := by
  have HX := Lib.hid hx
  have HD := Lib.hid hd
  obtain ⟨A, cap, rfl, hlc, hm, hs⟩ := hx
  unfold maxLen at hm
  clear hs hd
  obtain ⟨n, hn⟩ : ∃ n, xs.length = n := ⟨_, rfl⟩
  rw [hn] at HX hlc ⊢
  have HN := Lib.hid hn
  clear hn
  have HY := Lib.hid hy
  have HD' := Lib.hid hd'
  obtain ⟨B, cap', rfl, hlc', hm', hs'⟩ := hy
  unfold maxLen at hm'
  clear hs' hd'
  obtain ⟨m', hn'⟩ : ∃ m', ys.length = m' := ⟨_, rfl⟩
  rw [hn'] at HY hlc' ⊢
  have HN' := Lib.hid hn'
  clear hn'
  by_cases hb : 2147483647 < n
  · go_enter Try.func5, Try.ntmps5
    go_wp2_with fail
    go_ret
    exact ⟨rfl, Fr.refl _ _⟩
  by_cases hb' : 2147483647 < m'
  · go_enter Try.func5, Try.ntmps5
    go_wp2_with fail
    go_ret
    exact ⟨rfl, Fr.refl _ _⟩
  by_cases h2 : n ≤ 100 ∧ m' ≤ 100
  case neg =>
    go_enter Try.func5, Try.ntmps5
    go_wp2_with (go_at_call 14; refine (few2_no 100 A B _ _ _ _ _ _ (by omega) (by omega) (by omega) (by omega)).mono ?_; rintro e w1 ⟨rfl, rfl⟩)
    go_ret
    exact ⟨rfl, (Fr.refl _ _).alloc _⟩
  obtain ⟨h2, h2'⟩ := h2
  by_cases h3 : n = m'
  case neg =>
    go_enter Try.func5, Try.ntmps5
    go_wp2_with (go_at_call 14; refine (few2_yes 100 A B _ _ _ _ _ _ (by omega) h2 h2').mono ?_; rintro e w1 ⟨rfl, rfl⟩)
    go_ret
    exact ⟨rfl, (Fr.refl _ _).alloc _⟩
  subst h3
  clear hb' h2' hlc' hm'
  by_cases h4 : n = 0
  · have hz : ((n : Int) == 0) = true := by rw [h4]; rfl
    clear h4
    go_enter Try.func5, Try.ntmps5
    go_wp2_with (go_at_call 14; refine (few2_yes 100 A B _ _ _ _ _ _ (by omega) h2 h2).mono ?_; rintro e w1 ⟨rfl, rfl⟩)
    go_ret
    exact ⟨rfl, (Fr.refl _ _).alloc _⟩
  have hz : ((n : Int) == 0) = false := by rw [beq_eq_false_iff_ne]; omega
  have f0 : Fr [] w (w.alloc (.cells #[.slice A n cap, .slice B n cap'] 22)) := (Fr.refl _ _).alloc _
  clear h4
  obtain ⟨X, hX⟩ : ∃ X, X = val 18446744073709551616 xs := ⟨_, rfl⟩
  have hXb := words_n HD.out HN.out h2
  rw [← hX] at hXb
  have HXv := Lib.hid hX
  have HXB := Lib.hid hXb
  clear hX hXb
  obtain ⟨Y, hY⟩ : ∃ Y, Y = val 18446744073709551616 ys := ⟨_, rfl⟩
  have hYb := words_n HD'.out HN'.out h2
  rw [← hY] at hYb
  have HYv := Lib.hid hY
  have HYB := Lib.hid hYb
  clear hY hYb
  have C1 := Lib.hid (impl_sub _ xs _ ys  n _ (HX.out.fr0 f0) HD.out HN.out (HY.out.fr0 f0) HD'.out HN'.out (by omega) )
  have T1 : True := trivial
  have T2 : True := trivial
  have T3 : True := trivial
  have T4 : True := trivial
  go_enter Try.func5, Try.ntmps5
  go_wp2_with (first
    | (go_at_call 14; refine (few2_yes 100 A B _ _ _ _ _ _ (by omega) h2 h2).mono ?_; rintro e w1 ⟨rfl, rfl⟩)
    | (go_at_call 24; refine (Hid.out C1).mono ?_; clear C1; rintro e w2 ⟨A2, c2, zs, c, rfl, sl2, hzl, hzd, hR, f2⟩; have HZL := Lib.hid hzl; obtain ⟨hc0, hc1, hv⟩ := hR; rw [← HXv.out, ← HYv.out] at hv; have HV := Lib.hid hv; clear hzl hv)
    | (go_at_call 16; clear T1; refine (of_any _ zs _ sl2 hzd (by rw [HZL.out]; omega)).mono ?_; rintro e w3 ⟨v3, rfl, sn3, f3⟩)
    | (go_at_call 16; clear T2; refine (of_any _ ys _ (((HY.out.fr0 f0).fr0 f2).fr0 f3) HD'.out (by rw [HN'.out]; omega)).mono ?_; rintro e w4 ⟨v4, rfl, sn4, f4⟩; rw [← HYv.out] at sn4)
    | (go_at_call 23; clear T3; refine (add_any _ _ _ Y _ (sn3.fr0 f4) sn4 (words_BIG hzd (by rw [HZL.out]; omega)) (lt_BIG64 n HYB.out.1 (by omega))).mono ?_; rintro e w5 ⟨v5, rfl, sn5, f5⟩; rw [HV.out] at sn5)
    | (go_at_call 16; refine (of_any _ xs _ (((((HX.out.fr0 f0).fr0 f2).fr0 f3).fr0 f4).fr0 f5) HD.out (by rw [HN.out]; omega)).mono ?_; rintro e w6 ⟨v6, rfl, sn6, f6⟩; rw [← HXv.out] at sn6)
    | (go_at_call 26; refine (of1_any c _ hc0 (by omega)).mono ?_; rintro e w7 ⟨v7, rfl, sn7, f7⟩)
    | (go_at_call 25; refine (shifted_any _ c (64 * n) _ sn7 (word_BIG (by omega)) (by omega)).mono ?_; rintro e w8 ⟨v8, rfl, sn8, f8⟩; rw [pow_64n, Int.mul_comm] at sn8)
    | (go_at_call 23; refine (add_any _ _ X _ _ ((sn6.fr0 f7).fr0 f8) sn8 (lt_BIG64 n HXB.out.1 (by omega)) (mul_BIG' hc0 hc1 h2)).mono ?_; rintro e w9 ⟨v9, rfl, sn9, f9⟩)
    | (go_at_call 21; refine (cmp_same _ _ _ _ ((((sn5.fr0 f6).fr0 f7).fr0 f8).fr0 f9) sn9).mono ?_; rintro e w10 ⟨rfl, f10⟩))
  go_ret
  exact ⟨rfl, (((((((((f0.t f2).t f3).t f4).t f5).t f6).t f7).t f8).t f9).t f10)⟩
set_option maxRecDepth 100000 in
set_option maxHeartbeats 1000000 in
theorem zz_ma (v : Value) (xs : List Int) (y r : Int) (n : Nat) (w : World) (hx : Sl .u64 w v xs) (hd : DG 18446744073709551616 xs) (hn : xs.length = n) (hl : n ≤ 1000000) (hy0 : 0 ≤ y) (hy1 : y < 18446744073709551616) (hr0 : 0 ≤ r) (hr1 : r < 18446744073709551616) :
    Calls Try.prog 56 #[v, .int .u64 y, .int .u64 r] w (RetVec n (fun zs c => 0 ≤ c ∧ c < 18446744073709551616 ∧ val 18446744073709551616 zs + 18446744073709551616 ^ n * c = val 18446744073709551616 xs * y + r) w) := by
  have hx' := hx
  obtain ⟨A, cap, rfl, _, _, _⟩ := hx
  rw [hn] at hx' ⊢
  have HX := Lib.hid hx'
  have HD := Lib.hid hd
  have HN := Lib.hid hn
  clear hx' hd hn
  go_enter Try.func56, Try.ntmps56
  go_wp2_with (first
    | (at_make; refine wp_mk rfl (.tmp 11) (.tmp 11) _ rfl .u64 72 8 ty_big (by omega) n rfl rfl (by omega) ?_; intro g0 w0 hg0 row0 f0)
    | (go_at_call 63; refine (zzIn_n _ xs n _ (HX.out.fr0 f0) HN.out hl).mono ?_; rintro e w1 ⟨b1, rfl, row1, hb1, f1⟩)
    | (go_at_call 83; have hr := row0.fr f1 (by simp); have hlt := row0.lt; refine (mulAddVWW_any g0 0 n b1 0 n n _ xs y r _ hr (by simp) HN.out (row1.src (Nat.zero_le _)) HD.out (.inl (by omega)) (by omega) hy0 hy1 hr0 hr1).mono ?_; rintro e w3 ⟨zs, c, rfl, row3, f3, hzl, hzd, hR⟩; rw [spl_all (by rw [hzl]; simp)] at row3; have HZL := Lib.hid hzl; have HR := Lib.hid hR; clear hzl hR)
    | (go_at_call 71; go_in)
    | (go_at_call 61; refine (zzOut_n _ zs n _ row3 HZL.out hl).mono ?_; rintro e w4 ⟨A4, c4, rfl, sl4, f4⟩))
  go_ret2
  exact ⟨A4, c4, zs, c, rfl, sl4, HZL.out, hzd, HR.out, (fr_new' (f0.t f1) f3 hg0).t f4⟩
set_option maxRecDepth 100000 in
theorem impl_ma (v : Value) (xs : List Int) (y r : Int) (n : Nat) (w : World) (hx : Sl .u64 w v xs) (hd : DG 18446744073709551616 xs) (hn : xs.length = n) (hl : n ≤ 1000000) (hy0 : 0 ≤ y) (hy1 : y < 18446744073709551616) (hr0 : 0 ≤ r) (hr1 : r < 18446744073709551616) :
    Calls Try.prog 34 #[v, .int .u64 y, .int .u64 r] w (RetVec n (fun zs c => 0 ≤ c ∧ c < 18446744073709551616 ∧ val 18446744073709551616 zs + 18446744073709551616 ^ n * c = val 18446744073709551616 xs * y + r) w) := by
  have hx' := hx
  obtain ⟨A, cap, rfl, _, _, _⟩ := hx
  rw [hn] at hx' ⊢
  have HX := Lib.hid hx'
  have HD := Lib.hid hd
  have HN := Lib.hid hn
  clear hx' hd hn
  go_enter Try.func34, Try.ntmps34
  go_wp2_with (first
    | (go_at_call 49; refine (clone_any _ xs _ HX.out (by rw [HN.out]; exact hl)).mono ?_; rintro e w1 ⟨v1, rfl, sl1, f1⟩)
    | (go_at_call 56; refine (zz_ma _ xs y r n _ sl1 HD.out HN.out hl hy0 hy1 hr0 hr1).mono ?_; rintro e w3 ⟨A3, c3, zs, c, rfl, sl3, hzl, hzd, hR, f3⟩; have HZL := Lib.hid hzl; have HR := Lib.hid hR; clear hzl hR))
  go_ret2
  exact ⟨A3, c3, zs, c, rfl, sl3, HZL.out, hzd, HR.out, f1.t f3⟩
set_option maxRecDepth 100000 in
set_option maxHeartbeats 2000000 in
theorem law_FnMulAddVWW (v : Value) (xs : List Int) (y r : Int) (w : World) (hx : Sl .u64 w v xs) (hd : DG 18446744073709551616 xs) (hy0 : 0 ≤ y) (hy1 : y < 18446744073709551616) (hr0 : 0 ≤ r) (hr1 : r < 18446744073709551616) :
    Calls Try.prog 10 #[v, .int .u64 y, .int .u64 r] w fun e w' => e = .returned (.bool true) ∧ Fr [] w w' := by
  have HX := Lib.hid hx
  have HD := Lib.hid hd
  obtain ⟨A, cap, rfl, hlc, hm, hs⟩ := hx
  unfold maxLen at hm
  clear hs hd
  obtain ⟨n, hn⟩ : ∃ n, xs.length = n := ⟨_, rfl⟩
  rw [hn] at HX hlc ⊢
  have HN := Lib.hid hn
  clear hn
  by_cases hb : 2147483647 < n
  · go_enter Try.func10, Try.ntmps10
    go_wp2_with fail
    go_ret
    exact ⟨rfl, Fr.refl _ _⟩
  by_cases h2 : n ≤ 100
  case neg =>
    go_enter Try.func10, Try.ntmps10
    go_wp2_with (go_at_call 14; refine (few1_no 100 A _ _ _ _ (by omega) (by omega) (by omega)).mono ?_; rintro e w1 ⟨rfl, rfl⟩)
    go_ret
    exact ⟨rfl, (Fr.refl _ _).alloc _⟩
  by_cases h4 : n = 0
  · have hz : ((n : Int) == 0) = true := by rw [h4]; rfl
    clear h4
    go_enter Try.func10, Try.ntmps10
    go_wp2_with (go_at_call 14; refine (few1_yes 100 A _ _ _ _ (by omega) h2).mono ?_; rintro e w1 ⟨rfl, rfl⟩)
    go_ret
    exact ⟨rfl, (Fr.refl _ _).alloc _⟩
  have hz : ((n : Int) == 0) = false := by rw [beq_eq_false_iff_ne]; omega
  have f0 : Fr [] w (w.alloc (.cells #[.slice A n cap] 22)) := (Fr.refl _ _).alloc _
  clear h4
  obtain ⟨X, hX⟩ : ∃ X, X = val 18446744073709551616 xs := ⟨_, rfl⟩
  have hXb := words_n HD.out HN.out h2
  rw [← hX] at hXb
  have HXv := Lib.hid hX
  have HXB := Lib.hid hXb
  clear hX hXb
  have C1 := Lib.hid (impl_ma _ xs y r n _ (HX.out.fr0 f0) HD.out HN.out (by omega) hy0 hy1 hr0 hr1)
  have T1 : True := trivial
  have T2 : True := trivial
  have T3 : True := trivial
  have T4 : True := trivial
  go_enter Try.func10, Try.ntmps10
  go_wp2_with (first
    | (go_at_call 14; refine (few1_yes 100 A _ _ _ _ (by omega) h2).mono ?_; rintro e w1 ⟨rfl, rfl⟩)
    | (go_at_call 34; refine (Hid.out C1).mono ?_; clear C1; rintro e w2 ⟨A2, c2, zs, c, rfl, sl2, hzl, hzd, hR, f2⟩; have HZL := Lib.hid hzl; obtain ⟨hc0, hc1, hv⟩ := hR; rw [← HXv.out] at hv; have HV := Lib.hid hv; clear hzl hv)
    | (go_at_call 22; refine (carry_n _ zs n c _ _ sl2 HZL.out hzd (by omega) hc0 hc1 HV.out).mono ?_; rintro e w3 ⟨v3, rfl, sn3, f3⟩)
    | (go_at_call 16; refine (of_any _ xs _ (((HX.out.fr0 f0).fr0 f2).fr0 f3) HD.out (by rw [HN.out]; omega)).mono ?_; rintro e w4 ⟨v4, rfl, sn4, f4⟩; rw [← HXv.out] at sn4)
    | (go_at_call 26; clear T1; refine (of1_any y _ hy0 hy1).mono ?_; rintro e w5 ⟨v5, rfl, sn5, f5⟩)
    | (go_at_call 35; refine (mul_any _ _ X y _ (sn4.fr0 f5) sn5 (lt_BIG64 n HXB.out.1 (by omega)) (word_BIG hy1)).mono ?_; rintro e w6 ⟨v6, rfl, sn6, f6⟩)
    | (go_at_call 26; refine (of1_any r _ hr0 hr1).mono ?_; rintro e w7 ⟨v7, rfl, sn7, f7⟩)
    | (go_at_call 23; refine (add_any _ _ (X * y) r _ (sn6.fr0 f7) sn7 (mul_BIG HXB.out.2 HXB.out.1 hy0 hy1 h2) (word_BIG hr1)).mono ?_; rintro e w8 ⟨v8, rfl, sn8, f8⟩)
    | (go_at_call 21; refine (cmp_same _ _ _ _ (((((sn3.fr0 f4).fr0 f5).fr0 f6).fr0 f7).fr0 f8) sn8).mono ?_; rintro e w9 ⟨rfl, f9⟩))
  go_ret
  exact ⟨rfl, ((((((((f0.t f2).t f3).t f4).t f5).t f6).t f7).t f8).t f9)⟩
set_option maxRecDepth 100000 in
set_option maxHeartbeats 1000000 in
theorem zz_am (v : Value) (xs : List Int) (v' : Value) (ys : List Int) (m a : Int) (n : Nat) (w : World) (hx : Sl .u64 w v xs) (hd : DG 18446744073709551616 xs) (hn : xs.length = n) (hy : Sl .u64 w v' ys) (hd' : DG 18446744073709551616 ys) (hn' : ys.length = n) (hl : n ≤ 1000000) (hm0 : 0 ≤ m) (hm1 : m < 18446744073709551616) (ha0 : 0 ≤ a) (ha1 : a < 18446744073709551616) :
    Calls Try.prog 58 #[v, v', .int .u64 m, .int .u64 a] w (RetVec n (fun zs c => 0 ≤ c ∧ c < 18446744073709551616 ∧ val 18446744073709551616 zs + 18446744073709551616 ^ n * c = val 18446744073709551616 xs + val 18446744073709551616 ys * m + a) w) := by
  have hx' := hx
  obtain ⟨A, cap, rfl, _, _, _⟩ := hx
  rw [hn] at hx' ⊢
  have HX := Lib.hid hx'
  have HD := Lib.hid hd
  have HN := Lib.hid hn
  clear hx' hd hn
  have HY := Lib.hid hy
  have HD' := Lib.hid hd'
  have HN' := Lib.hid hn'
  clear hy hd' hn'
  have T1 : True := trivial
  go_enter Try.func58, Try.ntmps58
  go_wp2_with (first
    | (at_make; refine wp_mk rfl (.tmp 13) (.tmp 13) _ rfl .u64 72 8 ty_big (by omega) n rfl rfl (by omega) ?_; intro g0 w0 hg0 row0 f0)
    | (go_at_call 63; clear T1; refine (zzIn_n _ xs n _ (HX.out.fr0 f0) HN.out hl).mono ?_; rintro e w1 ⟨b1, rfl, row1, hb1, f1⟩)
    | (go_at_call 63; refine (zzIn_n _ ys n _ ((HY.out.fr0 f0).fr0 f1) HN'.out hl).mono ?_; rintro e w2 ⟨b2, rfl, row2, hb2, f2⟩)
    | (go_at_call 86; have hr := (row0.fr f1 (by simp)).fr f2 (by simp); have hlt := row0.lt; have hlt1 := f1.size; have hs1 := (row1.fr f2 (by simp)); refine (addMulVVWW_any g0 0 n b1 0 n b2 0 n n _ xs ys m a _ hr (by simp) HN.out (hs1.src (Nat.zero_le _)) HD.out (.inl (by omega)) HN'.out (row2.src (Nat.zero_le _)) HD'.out (.inl (by omega)) (by omega) hm0 hm1 ha0 ha1).mono ?_; rintro e w3 ⟨zs, c, rfl, row3, f3, hzl, hzd, hR⟩; rw [spl_all (by rw [hzl]; simp)] at row3; have HZL := Lib.hid hzl; have HR := Lib.hid hR; clear hzl hR)
    | (go_at_call 73; go_in)
    | (go_at_call 61; refine (zzOut_n _ zs n _ row3 HZL.out hl).mono ?_; rintro e w4 ⟨A4, c4, rfl, sl4, f4⟩))
  go_ret2
  exact ⟨A4, c4, zs, c, rfl, sl4, HZL.out, hzd, HR.out, (fr_new' ((f0.t f1).t f2) f3 hg0).t f4⟩
set_option maxRecDepth 100000 in
theorem impl_am (v : Value) (xs : List Int) (v' : Value) (ys : List Int) (m a : Int) (n : Nat) (w : World) (hx : Sl .u64 w v xs) (hd : DG 18446744073709551616 xs) (hn : xs.length = n) (hy : Sl .u64 w v' ys) (hd' : DG 18446744073709551616 ys) (hn' : ys.length = n) (hl : n ≤ 1000000) (hm0 : 0 ≤ m) (hm1 : m < 18446744073709551616) (ha0 : 0 ≤ a) (ha1 : a < 18446744073709551616) :
    Calls Try.prog 38 #[v, v', .int .u64 m, .int .u64 a] w (RetVec n (fun zs c => 0 ≤ c ∧ c < 18446744073709551616 ∧ val 18446744073709551616 zs + 18446744073709551616 ^ n * c = val 18446744073709551616 xs + val 18446744073709551616 ys * m + a) w) := by
  have hx' := hx
  obtain ⟨A, cap, rfl, _, _, _⟩ := hx
  rw [hn] at hx' ⊢
  have HX := Lib.hid hx'
  have HD := Lib.hid hd
  have HN := Lib.hid hn
  clear hx' hd hn
  have hy' := hy
  obtain ⟨B, cap', rfl, _, _, _⟩ := hy
  rw [hn'] at hy' ⊢
  have HY := Lib.hid hy'
  have HD' := Lib.hid hd'
  have HN' := Lib.hid hn'
  clear hy' hd' hn'
  have T1 : True := trivial
  go_enter Try.func38, Try.ntmps38
  go_wp2_with (first
    | (go_at_call 49; clear T1; refine (clone_any _ xs _ HX.out (by rw [HN.out]; exact hl)).mono ?_; rintro e w1 ⟨v1, rfl, sl1, f1⟩)
    | (go_at_call 49; refine (clone_any _ ys _ (HY.out.fr0 f1) (by rw [HN'.out]; exact hl)).mono ?_; rintro e w2 ⟨v2, rfl, sl2, f2⟩)
    | (go_at_call 58; refine (zz_am _ xs _ ys m a n _ (sl1.fr0 f2) HD.out HN.out sl2 HD'.out HN'.out hl hm0 hm1 ha0 ha1).mono ?_; rintro e w3 ⟨A3, c3, zs, c, rfl, sl3, hzl, hzd, hR, f3⟩; have HZL := Lib.hid hzl; have HR := Lib.hid hR; clear hzl hR))
  go_ret2
  exact ⟨A3, c3, zs, c, rfl, sl3, HZL.out, hzd, HR.out, (f1.t f2).t f3⟩
set_option maxRecDepth 100000 in
set_option maxHeartbeats 2000000 in
theorem law_FnAddMulVVWW (v : Value) (xs : List Int) (v' : Value) (ys : List Int) (m a : Int) (w : World) (hx : Sl .u64 w v xs) (hd : DG 18446744073709551616 xs) (hy : Sl .u64 w v' ys) (hd' : DG 18446744073709551616 ys) (hm0 : 0 ≤ m) (hm1 : m < 18446744073709551616) (ha0 : 0 ≤ a) (ha1 : a < 18446744073709551616) :
    Calls Try.prog 12 #[v, v', .int .u64 m, .int .u64 a] w fun e w' => e = .returned (.bool true) ∧ Fr [] w w' := by
  have HX := Lib.hid hx
  have HD := Lib.hid hd
  obtain ⟨A, cap, rfl, hlc, hm, hs⟩ := hx
  unfold maxLen at hm
  clear hs hd
  obtain ⟨n, hn⟩ : ∃ n, xs.length = n := ⟨_, rfl⟩
  rw [hn] at HX hlc ⊢
  have HN := Lib.hid hn
  clear hn
  have HY := Lib.hid hy
  have HD' := Lib.hid hd'
  obtain ⟨B, cap', rfl, hlc', hm', hs'⟩ := hy
  unfold maxLen at hm'
  clear hs' hd'
  obtain ⟨m', hn'⟩ : ∃ m', ys.length = m' := ⟨_, rfl⟩
  rw [hn'] at HY hlc' ⊢
  have HN' := Lib.hid hn'
  clear hn'
  by_cases hb : 2147483647 < n
  · go_enter Try.func12, Try.ntmps12
    go_wp2_with fail
    go_ret
    exact ⟨rfl, Fr.refl _ _⟩
  by_cases hb' : 2147483647 < m'
  · go_enter Try.func12, Try.ntmps12
    go_wp2_with fail
    go_ret
    exact ⟨rfl, Fr.refl _ _⟩
  by_cases h2 : n ≤ 100 ∧ m' ≤ 100
  case neg =>
    go_enter Try.func12, Try.ntmps12
    go_wp2_with (go_at_call 14; refine (few2_no 100 A B _ _ _ _ _ _ (by omega) (by omega) (by omega) (by omega)).mono ?_; rintro e w1 ⟨rfl, rfl⟩)
    go_ret
    exact ⟨rfl, (Fr.refl _ _).alloc _⟩
  obtain ⟨h2, h2'⟩ := h2
  by_cases h3 : n = m'
  case neg =>
    go_enter Try.func12, Try.ntmps12
    go_wp2_with (go_at_call 14; refine (few2_yes 100 A B _ _ _ _ _ _ (by omega) h2 h2').mono ?_; rintro e w1 ⟨rfl, rfl⟩)
    go_ret
    exact ⟨rfl, (Fr.refl _ _).alloc _⟩
  subst h3
  clear hb' h2' hlc' hm'
  by_cases h4 : n = 0
  · have hz : ((n : Int) == 0) = true := by rw [h4]; rfl
    clear h4
    go_enter Try.func12, Try.ntmps12
    go_wp2_with (go_at_call 14; refine (few2_yes 100 A B _ _ _ _ _ _ (by omega) h2 h2).mono ?_; rintro e w1 ⟨rfl, rfl⟩)
    go_ret
    exact ⟨rfl, (Fr.refl _ _).alloc _⟩
  have hz : ((n : Int) == 0) = false := by rw [beq_eq_false_iff_ne]; omega
  have f0 : Fr [] w (w.alloc (.cells #[.slice A n cap, .slice B n cap'] 22)) := (Fr.refl _ _).alloc _
  clear h4
  obtain ⟨X, hX⟩ : ∃ X, X = val 18446744073709551616 xs := ⟨_, rfl⟩
  have hXb := words_n HD.out HN.out h2
  rw [← hX] at hXb
  have HXv := Lib.hid hX
  have HXB := Lib.hid hXb
  clear hX hXb
  obtain ⟨Y, hY⟩ : ∃ Y, Y = val 18446744073709551616 ys := ⟨_, rfl⟩
  have hYb := words_n HD'.out HN'.out h2
  rw [← hY] at hYb
  have HYv := Lib.hid hY
  have HYB := Lib.hid hYb
  clear hY hYb
  have C1 := Lib.hid (impl_am _ xs _ ys m a n _ (HX.out.fr0 f0) HD.out HN.out (HY.out.fr0 f0) HD'.out HN'.out (by omega) hm0 hm1 ha0 ha1)
  have T1 : True := trivial
  have T2 : True := trivial
  have T3 : True := trivial
  have T4 : True := trivial
  go_enter Try.func12, Try.ntmps12
  go_wp2_with (first
    | (go_at_call 14; refine (few2_yes 100 A B _ _ _ _ _ _ (by omega) h2 h2).mono ?_; rintro e w1 ⟨rfl, rfl⟩)
    | (go_at_call 38; refine (Hid.out C1).mono ?_; clear C1; rintro e w2 ⟨A2, c2, zs, c, rfl, sl2, hzl, hzd, hR, f2⟩; have HZL := Lib.hid hzl; obtain ⟨hc0, hc1, hv⟩ := hR; rw [← HXv.out, ← HYv.out] at hv; have HV := Lib.hid hv; clear hzl hv)
    | (go_at_call 22; refine (carry_n _ zs n c _ _ sl2 HZL.out hzd (by omega) hc0 hc1 HV.out).mono ?_; rintro e w3 ⟨v3, rfl, sn3, f3⟩)
    | (go_at_call 16; clear T1; refine (of_any _ xs _ (((HX.out.fr0 f0).fr0 f2).fr0 f3) HD.out (by rw [HN.out]; omega)).mono ?_; rintro e w4 ⟨v4, rfl, sn4, f4⟩; rw [← HXv.out] at sn4)
    | (go_at_call 16; refine (of_any _ ys _ ((((HY.out.fr0 f0).fr0 f2).fr0 f3).fr0 f4) HD'.out (by rw [HN'.out]; omega)).mono ?_; rintro e w5 ⟨v5, rfl, sn5, f5⟩; rw [← HYv.out] at sn5)
    | (go_at_call 26; clear T2; refine (of1_any m _ hm0 hm1).mono ?_; rintro e w6 ⟨v6, rfl, sn6, f6⟩)
    | (go_at_call 35; refine (mul_any _ _ Y m _ (sn5.fr0 f6) sn6 (lt_BIG64 n HYB.out.1 (by omega)) (word_BIG hm1)).mono ?_; rintro e w7 ⟨v7, rfl, sn7, f7⟩)
    | (go_at_call 23; clear T3; refine (add_any _ _ X (Y * m) _ (((sn4.fr0 f5).fr0 f6).fr0 f7) sn7 (lt_BIG64 n HXB.out.1 (by omega)) (mul_BIG HYB.out.2 HYB.out.1 hm0 hm1 h2)).mono ?_; rintro e w8 ⟨v8, rfl, sn8, f8⟩)
    | (go_at_call 26; refine (of1_any a _ ha0 ha1).mono ?_; rintro e w9 ⟨v9, rfl, sn9, f9⟩)
    | (go_at_call 23; refine (add_any _ _ (X + Y * m) a _ (sn8.fr0 f9) sn9 (muladd_BIG HYB.out.2 HYB.out.1 hm0 hm1 HXB.out.2 HXB.out.1 h2) (word_BIG ha1)).mono ?_; rintro e w10 ⟨v10, rfl, sn10, f10⟩)
    | (go_at_call 21; refine (cmp_same _ _ _ _ (((((((sn3.fr0 f4).fr0 f5).fr0 f6).fr0 f7).fr0 f8).fr0 f9).fr0 f10) sn10).mono ?_; rintro e w11 ⟨rfl, f11⟩))
  go_ret
  exact ⟨rfl, ((((((((((f0.t f2).t f3).t f4).t f5).t f6).t f7).t f8).t f9).t f10).t f11)⟩
end Go.Proofs.Ytbjafiflbjjloaa
