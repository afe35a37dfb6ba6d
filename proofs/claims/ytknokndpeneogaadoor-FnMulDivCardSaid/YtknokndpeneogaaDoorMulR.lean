/-
  The laws FnMulRoads and FnDistribute, walked. Conditions: the words can be read; the threshold lies in its variable.
-/
import Derived.Test.YtknokndpeneogaaDoorMulM
import Derived.Test.YtknokndpeneogaaDoorCmpB
set_option linter.unusedSimpArgs false
set_option linter.unusedVariables false
namespace Go.Proofs.YtknokndpeneogaaDoor
open Go.Big Go.RowKit
set_option maxRecDepth 100000 in
set_option maxHeartbeats 2000000 in
theorem law_FnMulRoads (v : Value) (xs : List Int) (u : Value) (ys : List Int) (w : World) (hx : Sl .u64 w v xs) (hd : DG 18446744073709551616 xs) (hy : Sl .u64 w u ys) (hd' : DG 18446744073709551616 ys) (hT : Glo w 2 40) :
    Calls Tryd.prog 10 #[v, u] w fun e w' => e = .returned (.bool true) ∧ Fr [] w w' := by
  have HX := Lib.hid hx
  have HD := Lib.hid hd
  have HY := Lib.hid hy
  have HD' := Lib.hid hd'
  have HT := Lib.hid hT
  obtain ⟨A, cap, rfl, hlc, hm, hs⟩ := hx
  obtain ⟨B, cap', rfl, hlc', hm', hs'⟩ := hy
  unfold maxLen at hm hm'
  clear hs hd hs' hd' hT
  by_cases h1 : 2147483647 < xs.length
  · go_enter Tryd.func10, Tryd.ntmps10
    go_wp2_with fail
    go_ret
    exact ⟨rfl, Fr.refl _ _⟩
  by_cases h1' : 2147483647 < ys.length
  · go_enter Tryd.func10, Tryd.ntmps10
    go_wp2_with fail
    go_ret
    exact ⟨rfl, Fr.refl _ _⟩
  by_cases h2 : xs.length ≤ 260 ∧ ys.length ≤ 260
  case neg =>
    go_enter Tryd.func10, Tryd.ntmps10
    go_wp2_with (go_at_call 17; refine (few2_no 260 A B _ _ _ _ _ _ (by omega) (by omega) (by omega) (by omega)).mono ?_; rintro e w1 ⟨rfl, rfl⟩)
    go_ret
    exact ⟨rfl, (Fr.refl _ _).alloc _⟩
  obtain ⟨h2, h3⟩ := h2
  by_cases h4 : xs.length = 0
  · obtain rfl : xs = [] := List.eq_nil_of_length_eq_zero h4
    simp only [List.length_nil] at *
    clear h4
    go_enter Tryd.func10, Tryd.ntmps10
    go_wp2_with (go_at_call 17; refine (few2_yes 260 A B _ _ _ _ _ _ (by omega) (by omega) (by omega)).mono ?_; rintro e w1 ⟨rfl, rfl⟩)
    go_ret
    exact ⟨rfl, (Fr.refl _ _).alloc _⟩
  have h0 : ((xs.length : Int) == 0) = false := by rw [beq_eq_false_iff_ne]; omega
  by_cases h5 : xs.length = ys.length
  case neg =>
    have h50 : ((xs.length : Int) == (ys.length : Int)) = false := by rw [beq_eq_false_iff_ne]; omega
    have h51 : ((xs.length : Int) != (ys.length : Int)) = true := by rw [bne, h50]; rfl
    go_enter Tryd.func10, Tryd.ntmps10
    go_wp2_with (go_at_call 17; refine (few2_yes 260 A B _ _ _ _ _ _ (by omega) h2 h3).mono ?_; rintro e w1 ⟨rfl, rfl⟩)
    go_ret
    exact ⟨rfl, (Fr.refl _ _).alloc _⟩
  obtain ⟨n, hn⟩ : ∃ n, xs.length = n := ⟨_, rfl⟩
  have hn' : ys.length = n := by omega
  obtain ⟨n2, hn2⟩ : ∃ n2, n2 = 2 * n := ⟨_, rfl⟩
  have a1 : 2 * (n : Int) = (n2 : Int) := by omega
  have hn9 : n2 ≤ 520 := by omega
  have hn2p : 0 < n2 := by omega
  have f0 : Fr [] w (w.alloc (.cells #[.slice A xs.length cap, .slice B ys.length cap'] 22)) := (Fr.refl _ _).alloc _
  have C1 := implBasicMul_any _ _ xs ys _ (HX.out.fr0 f0) HD.out (by omega) (HY.out.fr0 f0) HD'.out (by omega) (by omega) (by omega)
  rw [show xs.length + ys.length = n2 by omega] at C1
  have C2 := fun W (f : Fr [] w W) => implKaratsuba_any _ _ xs ys n n2 W (HX.out.fr0 f) HD.out (HY.out.fr0 f) HD'.out hn hn' (by omega) (by omega) hn2 (HT.out.fr0 f)
  have FW := Lib.hid (few2_yes 260 A B xs.length cap ys.length cap' w 22 (by omega) h2 h3)
  rw [hn, hn'] at C1 C2 FW f0
  rw [hn] at hlc h0 ⊢
  rw [hn'] at hlc' ⊢
  have HC1 := Lib.hid C1
  have HC2 := Lib.hid C2
  clear hn2 hn hn' h5 h1 h1' h2 h3 h4 C1 C2 HX HY HD HD' HT
  go_enter Tryd.func10, Tryd.ntmps10
  go_wp2_with (first
    | (go_at_call 17; refine (FW.out).mono ?_; rintro e w1 ⟨rfl, rfl⟩)
    | (go_at_call 35; refine (HC1.out).mono ?_; rintro e w2 ⟨A2, c2, zs, rfl, sl2, hzd, hzl, hzv, f2⟩; have SL2 := Lib.hid sl2; have HZL := Lib.hid hzl; have HZV := Lib.hid hzv; have HZD := Lib.hid hzd; have hc2 : n2 ≤ c2 := (by obtain ⟨_, _, e, q, _⟩ := sl2; injection e with _ _ e; rw [hzl] at q; omega); have hc2' : c2 ≤ 9223372036854775807 := (by obtain ⟨_, _, e, _, q, _⟩ := sl2; injection e with _ _ e; unfold maxLen at q; omega); clear hzl hzv hzd sl2)
    | (go_at_call 32; refine (HC2.out _ (f0.t f2)).mono ?_; rintro e w3 ⟨A3, c3, us, rfl, sl3, hud, hul, huv, f3⟩; obtain rfl : zs = us := eq_of_val_len HZD.out hud (HZL.out.trans hul.symm) (HZV.out.trans huv.symm); have SL3 := Lib.hid sl3; have hc3 : n2 ≤ c3 := (by obtain ⟨_, _, e, q, _⟩ := sl3; injection e with _ _ e; rw [hul] at q; omega); have hc3' : c3 ≤ 9223372036854775807 := (by obtain ⟨_, _, e, _, q, _⟩ := sl3; injection e with _ _ e; unfold maxLen at q; omega); clear hul huv hud sl3))
  have F3 := Lib.hid ((f0.t f2).t f3)
  obtain ⟨b2, o2, rfl, s2⟩ : ∃ b o, A2 = some ⟨b, o, none⟩ ∧ Go.Big.Src .u64 w3 b o zs := by
    obtain ⟨_, _, e, _, _, q⟩ := SL2.out
    injection e with e1 _ _
    obtain ⟨b, o, h1, _, h2⟩ := q (by rw [HZL.out]; omega)
    exact ⟨b, o, e1.trans h1, h2.fr f3 (by simp)⟩
  obtain ⟨b3, o3, rfl, s3⟩ : ∃ b o, A3 = some ⟨b, o, none⟩ ∧ Go.Big.Src .u64 w3 b o zs := by
    obtain ⟨_, _, e, _, _, q⟩ := SL3.out
    injection e with e1 _ _
    obtain ⟨b, o, h1, _, h2⟩ := q (by rw [HZL.out]; omega)
    exact ⟨b, o, e1.trans h1, h2⟩
  have S2 := Lib.hid s2
  have S3 := Lib.hid s3
  clear s2 s3 f2 f3 f0 SL2 SL3
  go_loopg [54] n2 (fun g iv wr => ∃ k : Nat, k ≤ n2 ∧ g = n2 - k ∧ iv = .int .i64 k ∧ Fr [] w3 wr)
  case atStart => exact ⟨0, Nat.zero_le _, by omega, rfl, Fr.refl _ _⟩
  case round =>
    obtain ⟨k, hk, rfl, rfl, hf⟩ := hrel
    by_cases hlt : k < n2
    · have cA := (S2.out.fr hf (by simp)) k (by rw [HZL.out]; exact hlt)
      have cB := (S3.out.fr hf (by simp)) k (by rw [HZL.out]; exact hlt)
      obtain ⟨x, hx⟩ : ∃ x, x = zs.getD k 0 := ⟨_, rfl⟩
      rw [← hx] at cA cB
      clear hx
      go_wp2_with fail
      go_quiet (fail)
      go_wp2_with fail
      go_roundg (n2 - (k + 1))
      case measure => omega
      case rel => exact ⟨k + 1, hlt, rfl, by first | rfl | go_num, by repeat (first | exact hf | apply Fr.drewN)⟩
    · go_wp2_with fail
      go_ret
      exact ⟨rfl, F3.out.t hf⟩
theorem sumB {x y : Int} {k : Nat} (hx : x < 18446744073709551616 ^ k) (hy : y < 18446744073709551616 ^ k) : x + y < 18446744073709551616 ^ (k + 1) := by
  rw [Int.pow_succ]
  have := pow_pos_ (B := 18446744073709551616) (by omega) k
  omega
theorem prodB {x y : Int} {k l : Nat} (hx0 : 0 ≤ x) (hx : x < 18446744073709551616 ^ k) (hy0 : 0 ≤ y) (hy : y < 18446744073709551616 ^ l) : x * y < 18446744073709551616 ^ (k + l) := by
  rw [Int.pow_add]
  have h1 : x * y ≤ x * 18446744073709551616 ^ l := Int.mul_le_mul_of_nonneg_left (by omega) hx0
  have h2 : x * 18446744073709551616 ^ l < 18446744073709551616 ^ k * 18446744073709551616 ^ l := Int.mul_lt_mul_of_pos_right hx (pow_pos_ (by omega) _)
  omega
theorem valB {xs : List Int} {k : Nat} (hd : DG 18446744073709551616 xs) (hl : xs.length ≤ k) : 0 ≤ val 18446744073709551616 xs ∧ val 18446744073709551616 xs < 18446744073709551616 ^ k :=
  ⟨val_nonneg (by omega) hd, Int.lt_of_lt_of_le (val_lt (by omega) hd) (pow_le_pow_ (by omega) hl)⟩
theorem powB (k l : Nat) (h : k ≤ l) {x : Int} (hx : x < 18446744073709551616 ^ k) : x < 18446744073709551616 ^ l := Int.lt_of_lt_of_le hx (pow_le_pow_ (by omega) h)
/-- Add, Mul and Cmp of numbers as values -/
theorem implAddS_any {v u : Value} {x y : Int} {W : World} (hx : SW W v x) (hy : SW W u y) (bx : x < 18446744073709551616 ^ 900) (by_ : y < 18446744073709551616 ^ 900) : Calls Tryd.prog 34 #[v, u] W (RetW (x + y) W) := by
  obtain ⟨xs, h1, h2, rfl, h3⟩ := hx.list bx
  obtain ⟨ys, g1, g2, rfl, g3⟩ := hy.list by_
  exact implAdd_any v u xs ys W h1 h2 (by omega) g1 g2 (by omega)
theorem implMulS_any {v u : Value} {x y : Int} {W : World} (hx : SW W v x) (hy : SW W u y) (bx : x < 18446744073709551616 ^ 900) (by_ : y < 18446744073709551616 ^ 900) (hT : Glo W 2 40) : Calls Tryd.prog 31 #[v, u] W (RetW (x * y) W) := by
  obtain ⟨xs, h1, h2, rfl, h3⟩ := hx.list bx
  obtain ⟨ys, g1, g2, rfl, g3⟩ := hy.list by_
  exact implMul_any v u xs ys W h1 h2 h3 g1 g2 g3 hT
theorem implCmpS_eq {v u : Value} {x y : Int} {W : World} (hx : SW W v x) (hy : SW W u y) (bx : x < 18446744073709551616 ^ 1800) (h : x = y) : Calls Tryd.prog 33 #[v, u] W fun e w' => e = .returned (.int .i64 0) ∧ Fr [] W w' := by
  subst h
  obtain ⟨xs, h1, h2, rfl, h3⟩ := hx.list bx
  obtain ⟨ys, g1, g2, g4, g3⟩ := hy.list bx
  refine (implCmp_any v u xs ys W h1 g1 h2 g2 (by omega) (by omega)).mono ?_
  rintro e w' ⟨rfl, f⟩
  exact ⟨by rw [g4, cmpI_eq], f⟩
theorem implCmp_one (W : World) (T : TypeId) : Calls Tryd.prog 33 #[.slice (some ⟨W.heap.size, 0, none⟩) 1 1, .slice none 0 0] (W.alloc (.cells #[.int .u64 1] T)) fun e w' => e = .returned (.int .i64 1) ∧ Fr [] W w' := by
  refine (implCmp_any _ _ [1] [] _ (row1 W .u64 T 1) (Sl.nil _ _) (DG.cons (by omega) (by omega) (DG.nil _)) (DG.nil _) (by simp) (by simp)).mono ?_
  rintro e w' ⟨rfl, f⟩
  exact ⟨by rw [show cmpI (val 18446744073709551616 [1]) (val 18446744073709551616 []) = 1 by decide], Fr.trans ((Fr.refl _ _).alloc _) f (by simp)⟩
set_option maxRecDepth 100000 in
set_option maxHeartbeats 2000000 in
theorem law_FnDistribute (v : Value) (xs : List Int) (u : Value) (ys : List Int) (t : Value) (zs : List Int) (w : World) (hx : Sl .u64 w v xs) (hd : DG 18446744073709551616 xs) (hy : Sl .u64 w u ys) (hd' : DG 18446744073709551616 ys) (hz : Sl .u64 w t zs) (hd2 : DG 18446744073709551616 zs) (hT : Glo w 2 40) :
    Calls Tryd.prog 9 #[v, u, t] w fun e w' => e = .returned (.bool true) ∧ Fr [] w w' := by
  have HX := Lib.hid hx
  have HD := Lib.hid hd
  have HY := Lib.hid hy
  have HD' := Lib.hid hd'
  have HZ := Lib.hid hz
  have HD2 := Lib.hid hd2
  have HT := Lib.hid hT
  obtain ⟨A, cap, rfl, hlc, hm, hs⟩ := hx
  obtain ⟨B, cap', rfl, hlc', hm', hs'⟩ := hy
  obtain ⟨C, cap2, rfl, hlc2, hm2, hs2⟩ := hz
  unfold maxLen at hm hm' hm2
  clear hs hd hs' hd' hs2 hd2 hT
  by_cases h1 : 2147483647 < xs.length
  · go_enter Tryd.func9, Tryd.ntmps9
    go_wp2_with fail
    go_ret
    exact ⟨rfl, Fr.refl _ _⟩
  by_cases h1' : 2147483647 < ys.length
  · go_enter Tryd.func9, Tryd.ntmps9
    go_wp2_with fail
    go_ret
    exact ⟨rfl, Fr.refl _ _⟩
  by_cases h1z : 2147483647 < zs.length
  · go_enter Tryd.func9, Tryd.ntmps9
    go_wp2_with fail
    go_ret
    exact ⟨rfl, Fr.refl _ _⟩
  by_cases h2 : xs.length ≤ 260 ∧ ys.length ≤ 260 ∧ zs.length ≤ 260
  case neg =>
    go_enter Tryd.func9, Tryd.ntmps9
    go_wp2_with (go_at_call 17; refine (few3_no 260 A B C _ _ _ _ _ _ _ _ (by omega) (by omega) (by omega) (by omega) (by omega)).mono ?_; rintro e w1 ⟨rfl, rfl⟩)
    go_ret
    exact ⟨rfl, (Fr.refl _ _).alloc _⟩
  obtain ⟨h2, h3, h4⟩ := h2
  have f0 : Fr [] w (w.alloc (.cells #[.slice A xs.length cap, .slice B ys.length cap', .slice C zs.length cap2] 22)) := (Fr.refl _ _).alloc _
  obtain ⟨x0, xb⟩ := valB HD.out h2
  obtain ⟨y0, yb⟩ := valB HD'.out h3
  obtain ⟨z0, zb⟩ := valB HD2.out h4
  have CA := Lib.hid (fun W (f : Fr [] w W) => implAdd_any _ _ ys zs W (HY.out.fr0 f) HD'.out (by omega) (HZ.out.fr0 f) HD2.out (by omega))
  have CXY := Lib.hid (fun W (f : Fr [] w W) => implMul_any _ _ xs ys W (HX.out.fr0 f) HD.out (by omega) (HY.out.fr0 f) HD'.out (by omega) (HT.out.fr0 f))
  have CXZ := Lib.hid (fun W (f : Fr [] w W) => implMul_any _ _ xs zs W (HX.out.fr0 f) HD.out (by omega) (HZ.out.fr0 f) HD2.out (by omega) (HT.out.fr0 f))
  have CXS := Lib.hid (fun W (f : Fr [] w W) s (hs : SW W s (val 18446744073709551616 ys + val 18446744073709551616 zs)) => by
    obtain ⟨ss, h1, h2, h3, h4⟩ := hs.list (powB 261 900 (by omega) (sumB yb zb))
    have := implMul_any _ s xs ss W (HX.out.fr0 f) HD.out (by omega) h1 h2 h4 (HT.out.fr0 f)
    rw [h3] at this
    exact this)
  obtain ⟨X, hX⟩ : ∃ X, val 18446744073709551616 xs = X := ⟨_, rfl⟩
  obtain ⟨Y, hY⟩ : ∃ Y, val 18446744073709551616 ys = Y := ⟨_, rfl⟩
  obtain ⟨Z, hZ⟩ : ∃ Z, val 18446744073709551616 zs = Z := ⟨_, rfl⟩
  rw [hX] at CXY CXZ CXS x0 xb
  rw [hY] at CA CXY CXS y0 yb
  rw [hZ] at CA CXZ CXS z0 zb
  have B1 := Lib.hid (powB 520 900 (by omega) (prodB x0 xb y0 yb))
  have B2 := Lib.hid (powB 520 900 (by omega) (prodB x0 xb z0 zb))
  have B3 := Lib.hid (powB 521 1800 (by omega) (prodB x0 xb (by omega) (sumB yb zb)))
  have E := Lib.hid (show X * (Y + Z) = X * Y + X * Z from Int.mul_add _ _ _)
  have T1 : True := trivial
  have T2 : True := trivial
  have T3 : True := trivial
  have T4 : True := trivial
  clear hX hY hZ x0 xb y0 yb z0 zb h1 h1' h1z
  go_enter Tryd.func9, Tryd.ntmps9
  go_wp2_with (first
    | (go_at_call 17; refine (few3_yes 260 A B C _ _ _ _ _ _ _ _ (by omega) h2 h3 h4).mono ?_; rintro e w1 ⟨rfl, rfl⟩)
    | (go_at_call 34; clear T1; refine (CA.out _ f0).mono ?_; rintro e w2 ⟨v2, rfl, sw2, f2⟩)
    | (go_at_call 31; clear T2; refine (CXS.out _ (f0.t f2) _ sw2).mono ?_; rintro e w3 ⟨v3, rfl, sw3, f3⟩)
    | (go_at_call 31; clear T3; refine (CXY.out _ ((f0.t f2).t f3)).mono ?_; rintro e w4 ⟨v4, rfl, sw4, f4⟩)
    | (go_at_call 31; refine (CXZ.out _ (((f0.t f2).t f3).t f4)).mono ?_; rintro e w5 ⟨v5, rfl, sw5, f5⟩)
    | (go_at_call 34; refine (implAddS_any (sw4.fr0 f5) sw5 B1.out B2.out).mono ?_; rintro e w6 ⟨v6, rfl, sw6, f6⟩)
    | (go_at_call 33; clear T4; refine (implCmpS_eq (((sw3.fr0 f4).fr0 f5).fr0 f6) sw6 B3.out E.out).mono ?_; rintro e w7 ⟨rfl, f7⟩)
    | (go_at_call 33; refine (implCmp_one _ _).mono ?_; rintro e w8 ⟨rfl, f8⟩))
  go_ret
  exact ⟨rfl, (((((((f0.t f2).t f3).t f4).t f5).t f6).t f7).t f8)⟩
end Go.Proofs.YtknokndpeneogaaDoor
