/-
  The thin package's And, Or, Xor, AndNot, and the walk of the law FnBitwise. Conditions: the words can be read.
-/
import Derived.Test.YtjapebgihnahjaaBitw
import Derived.Test.YtjapebgihnahjaaHold
import Derived.Test.YtjapebgihnahjaaTruncL
set_option linter.unusedSimpArgs false
set_option linter.unusedVariables false
namespace Go.Big
theorem zw_norm {f : Int → Int → Int} {xs ys xs' ys' : List Int} (hf : f 0 0 = 0) (hx : DG 18446744073709551616 xs) (hy : DG 18446744073709551616 ys) (hx' : DG 18446744073709551616 xs') (hy' : DG 18446744073709551616 ys')
    (ex : val 18446744073709551616 xs' = val 18446744073709551616 xs) (ey : val 18446744073709551616 ys' = val 18446744073709551616 ys) (lx : xs'.length ≤ xs.length) (ly : ys'.length ≤ ys.length) :
    val 18446744073709551616 (zw f (max xs'.length ys'.length) xs' ys') = val 18446744073709551616 (zw f (max xs.length ys.length) xs ys) := by
  have gx := getD_of_val (by omega) hx' hx ex
  have gy := getD_of_val (by omega) hy' hy ey
  rw [zw_congr gx gy]
  refine (val_zw_pad (by omega) (fun i h1 h2 => ?_)).symm
  rw [← gx, ← gy, getD_out (by omega), getD_out (by omega)]
  exact hf
end Go.Big
namespace Go.Proofs.Ytjapebgihnahjaa
open Go.Big Go.RowKit
theorem bits00 (op : BinOp) (hop : op = .and ∨ op = .or ∨ op = .xor ∨ op = .andNot) : bits op .u64 0 0 = 0 := by
  have h := u64_bit_zero 0 (by omega) (by omega)
  rcases hop with rfl | rfl | rfl | rfl
  · exact h.1
  · exact h.2.2.1
  · exact h.2.2.2.2.1
  · exact h.2.2.2.2.2.2.1
set_option maxRecDepth 100000 in
set_option maxHeartbeats 1000000 in
theorem implAnd_any (v u : Value) (xs ys : List Int) (w : World) (hx : Sl .u64 w v xs) (hd : DG 18446744073709551616 xs) (hl : xs.length ≤ 100000) (hy : Sl .u64 w u ys) (hd' : DG 18446744073709551616 ys) (hl' : ys.length ≤ 100000) :
    Calls Try.prog 47 #[v, u] w (RetW (val 18446744073709551616 (zw (bits .and .u64) (max xs.length ys.length) xs ys)) w) := by
  have HX := Lib.hid hx
  have HD := Lib.hid hd
  have HY := Lib.hid hy
  have HD' := Lib.hid hd'
  have CN := Lib.hid (fun xs' ys' h1 h2 h3 h4 h5 h6 => zw_norm (bits00 .and (by simp)) (xs := xs) (ys := ys) (xs' := xs') (ys' := ys') hd hd' h1 h2 h3 h4 h5 h6)
  have HVB := Lib.hid (words_BIG (bw_dg .and (by simp) (n := max xs.length ys.length) hd hd') (by rw [zw_len]; omega))
  obtain ⟨V, hV⟩ : ∃ V, V = val 18446744073709551616 (zw (bits .and .u64) (max xs.length ys.length) xs ys) := ⟨_, rfl⟩
  rw [← hV] at CN HVB ⊢
  have T1 : True := trivial
  have T2 : True := trivial
  clear hx hd hy hd' hV
  go_enter Try.func47, Try.ntmps47
  go_wp2_with (first
    | (go_at_call 67; clear T1; refine (normed_any _ xs _ HX.out HD.out (by omega)).mono ?_; rintro e w1 ⟨v1, xs1, rfl, sl1, dx, nzx, hvx, hlx, f1⟩; have HVX := Lib.hid hvx; clear hvx)
    | (go_at_call 67; refine (normed_any _ ys _ (HY.out.fr0 f1) HD'.out (by omega)).mono ?_; rintro e w2 ⟨v2, ys1, rfl, sl2, dy, nzy, hvy, hly, f2⟩; have HVY := Lib.hid hvy; clear hvy)
    | (go_at_call 92; clear T2; refine (zzIn_any _ xs1 _ (sl1.fr0 f2) (by omega)).mono ?_; rintro e w3 ⟨b3, rfl, row3, hb3, f3⟩; have HR3 := Lib.hid row3; clear row3)
    | (go_at_call 92; refine (zzIn_any _ ys1 _ (sl2.fr0 f3) (by omega)).mono ?_; rintro e w4 ⟨b4, rfl, row4, hb4, f4⟩; have HR4 := Lib.hid row4; clear row4)
    | (go_at_call 105; refine (and_any _ _ xs1 ys1 _ ((HR3.out.fr f4 (by simp)).sl (by omega)) (HR4.out.sl (by omega)) dx dy (by omega) (by omega)).mono ?_; rw [CN.out xs1 ys1 dx dy HVX.out HVY.out (by omega) (by omega)]; rintro e w5 ⟨v5, rfl, sw5, f5⟩)
    | (go_at_call 97; refine (zzOutW_any _ _ _ sw5 HVB.out).mono ?_; rintro e w6 ⟨v6, rfl, sw6, f6⟩)
    | (go_at_call 79; go_in))
  go_ret
  exact ⟨_, rfl, sw6, ((((f1.t f2).t f3).t f4).t f5).t f6⟩
set_option maxRecDepth 100000 in
set_option maxHeartbeats 1000000 in
theorem implOr_any (v u : Value) (xs ys : List Int) (w : World) (hx : Sl .u64 w v xs) (hd : DG 18446744073709551616 xs) (hl : xs.length ≤ 100000) (hy : Sl .u64 w u ys) (hd' : DG 18446744073709551616 ys) (hl' : ys.length ≤ 100000) :
    Calls Try.prog 48 #[v, u] w (RetW (val 18446744073709551616 (zw (bits .or .u64) (max xs.length ys.length) xs ys)) w) := by
  have HX := Lib.hid hx
  have HD := Lib.hid hd
  have HY := Lib.hid hy
  have HD' := Lib.hid hd'
  have CN := Lib.hid (fun xs' ys' h1 h2 h3 h4 h5 h6 => zw_norm (bits00 .or (by simp)) (xs := xs) (ys := ys) (xs' := xs') (ys' := ys') hd hd' h1 h2 h3 h4 h5 h6)
  have HVB := Lib.hid (words_BIG (bw_dg .or (by simp) (n := max xs.length ys.length) hd hd') (by rw [zw_len]; omega))
  obtain ⟨V, hV⟩ : ∃ V, V = val 18446744073709551616 (zw (bits .or .u64) (max xs.length ys.length) xs ys) := ⟨_, rfl⟩
  rw [← hV] at CN HVB ⊢
  have T1 : True := trivial
  have T2 : True := trivial
  clear hx hd hy hd' hV
  go_enter Try.func48, Try.ntmps48
  go_wp2_with (first
    | (go_at_call 67; clear T1; refine (normed_any _ xs _ HX.out HD.out (by omega)).mono ?_; rintro e w1 ⟨v1, xs1, rfl, sl1, dx, nzx, hvx, hlx, f1⟩; have HVX := Lib.hid hvx; clear hvx)
    | (go_at_call 67; refine (normed_any _ ys _ (HY.out.fr0 f1) HD'.out (by omega)).mono ?_; rintro e w2 ⟨v2, ys1, rfl, sl2, dy, nzy, hvy, hly, f2⟩; have HVY := Lib.hid hvy; clear hvy)
    | (go_at_call 92; clear T2; refine (zzIn_any _ xs1 _ (sl1.fr0 f2) (by omega)).mono ?_; rintro e w3 ⟨b3, rfl, row3, hb3, f3⟩; have HR3 := Lib.hid row3; clear row3)
    | (go_at_call 92; refine (zzIn_any _ ys1 _ (sl2.fr0 f3) (by omega)).mono ?_; rintro e w4 ⟨b4, rfl, row4, hb4, f4⟩; have HR4 := Lib.hid row4; clear row4)
    | (go_at_call 106; refine (or_any _ _ xs1 ys1 _ ((HR3.out.fr f4 (by simp)).sl (by omega)) (HR4.out.sl (by omega)) dx dy (by omega) (by omega)).mono ?_; rw [CN.out xs1 ys1 dx dy HVX.out HVY.out (by omega) (by omega)]; rintro e w5 ⟨v5, rfl, sw5, f5⟩)
    | (go_at_call 97; refine (zzOutW_any _ _ _ sw5 HVB.out).mono ?_; rintro e w6 ⟨v6, rfl, sw6, f6⟩)
    | (go_at_call 80; go_in))
  go_ret
  exact ⟨_, rfl, sw6, ((((f1.t f2).t f3).t f4).t f5).t f6⟩
set_option maxRecDepth 100000 in
set_option maxHeartbeats 1000000 in
theorem implXor_any (v u : Value) (xs ys : List Int) (w : World) (hx : Sl .u64 w v xs) (hd : DG 18446744073709551616 xs) (hl : xs.length ≤ 100000) (hy : Sl .u64 w u ys) (hd' : DG 18446744073709551616 ys) (hl' : ys.length ≤ 100000) :
    Calls Try.prog 49 #[v, u] w (RetW (val 18446744073709551616 (zw (bits .xor .u64) (max xs.length ys.length) xs ys)) w) := by
  have HX := Lib.hid hx
  have HD := Lib.hid hd
  have HY := Lib.hid hy
  have HD' := Lib.hid hd'
  have CN := Lib.hid (fun xs' ys' h1 h2 h3 h4 h5 h6 => zw_norm (bits00 .xor (by simp)) (xs := xs) (ys := ys) (xs' := xs') (ys' := ys') hd hd' h1 h2 h3 h4 h5 h6)
  have HVB := Lib.hid (words_BIG (bw_dg .xor (by simp) (n := max xs.length ys.length) hd hd') (by rw [zw_len]; omega))
  obtain ⟨V, hV⟩ : ∃ V, V = val 18446744073709551616 (zw (bits .xor .u64) (max xs.length ys.length) xs ys) := ⟨_, rfl⟩
  rw [← hV] at CN HVB ⊢
  have T1 : True := trivial
  have T2 : True := trivial
  clear hx hd hy hd' hV
  go_enter Try.func49, Try.ntmps49
  go_wp2_with (first
    | (go_at_call 67; clear T1; refine (normed_any _ xs _ HX.out HD.out (by omega)).mono ?_; rintro e w1 ⟨v1, xs1, rfl, sl1, dx, nzx, hvx, hlx, f1⟩; have HVX := Lib.hid hvx; clear hvx)
    | (go_at_call 67; refine (normed_any _ ys _ (HY.out.fr0 f1) HD'.out (by omega)).mono ?_; rintro e w2 ⟨v2, ys1, rfl, sl2, dy, nzy, hvy, hly, f2⟩; have HVY := Lib.hid hvy; clear hvy)
    | (go_at_call 92; clear T2; refine (zzIn_any _ xs1 _ (sl1.fr0 f2) (by omega)).mono ?_; rintro e w3 ⟨b3, rfl, row3, hb3, f3⟩; have HR3 := Lib.hid row3; clear row3)
    | (go_at_call 92; refine (zzIn_any _ ys1 _ (sl2.fr0 f3) (by omega)).mono ?_; rintro e w4 ⟨b4, rfl, row4, hb4, f4⟩; have HR4 := Lib.hid row4; clear row4)
    | (go_at_call 107; refine (xor_any _ _ xs1 ys1 _ ((HR3.out.fr f4 (by simp)).sl (by omega)) (HR4.out.sl (by omega)) dx dy (by omega) (by omega)).mono ?_; rw [CN.out xs1 ys1 dx dy HVX.out HVY.out (by omega) (by omega)]; rintro e w5 ⟨v5, rfl, sw5, f5⟩)
    | (go_at_call 97; refine (zzOutW_any _ _ _ sw5 HVB.out).mono ?_; rintro e w6 ⟨v6, rfl, sw6, f6⟩)
    | (go_at_call 81; go_in))
  go_ret
  exact ⟨_, rfl, sw6, ((((f1.t f2).t f3).t f4).t f5).t f6⟩
set_option maxRecDepth 100000 in
set_option maxHeartbeats 1000000 in
theorem implAndNot_any (v u : Value) (xs ys : List Int) (w : World) (hx : Sl .u64 w v xs) (hd : DG 18446744073709551616 xs) (hl : xs.length ≤ 100000) (hy : Sl .u64 w u ys) (hd' : DG 18446744073709551616 ys) (hl' : ys.length ≤ 100000) :
    Calls Try.prog 50 #[v, u] w (RetW (val 18446744073709551616 (zw (bits .andNot .u64) (max xs.length ys.length) xs ys)) w) := by
  have HX := Lib.hid hx
  have HD := Lib.hid hd
  have HY := Lib.hid hy
  have HD' := Lib.hid hd'
  have CN := Lib.hid (fun xs' ys' h1 h2 h3 h4 h5 h6 => zw_norm (bits00 .andNot (by simp)) (xs := xs) (ys := ys) (xs' := xs') (ys' := ys') hd hd' h1 h2 h3 h4 h5 h6)
  have HVB := Lib.hid (words_BIG (bw_dg .andNot (by simp) (n := max xs.length ys.length) hd hd') (by rw [zw_len]; omega))
  obtain ⟨V, hV⟩ : ∃ V, V = val 18446744073709551616 (zw (bits .andNot .u64) (max xs.length ys.length) xs ys) := ⟨_, rfl⟩
  rw [← hV] at CN HVB ⊢
  have T1 : True := trivial
  have T2 : True := trivial
  clear hx hd hy hd' hV
  go_enter Try.func50, Try.ntmps50
  go_wp2_with (first
    | (go_at_call 67; clear T1; refine (normed_any _ xs _ HX.out HD.out (by omega)).mono ?_; rintro e w1 ⟨v1, xs1, rfl, sl1, dx, nzx, hvx, hlx, f1⟩; have HVX := Lib.hid hvx; clear hvx)
    | (go_at_call 67; refine (normed_any _ ys _ (HY.out.fr0 f1) HD'.out (by omega)).mono ?_; rintro e w2 ⟨v2, ys1, rfl, sl2, dy, nzy, hvy, hly, f2⟩; have HVY := Lib.hid hvy; clear hvy)
    | (go_at_call 92; clear T2; refine (zzIn_any _ xs1 _ (sl1.fr0 f2) (by omega)).mono ?_; rintro e w3 ⟨b3, rfl, row3, hb3, f3⟩; have HR3 := Lib.hid row3; clear row3)
    | (go_at_call 92; refine (zzIn_any _ ys1 _ (sl2.fr0 f3) (by omega)).mono ?_; rintro e w4 ⟨b4, rfl, row4, hb4, f4⟩; have HR4 := Lib.hid row4; clear row4)
    | (go_at_call 108; refine (andNot_any _ _ xs1 ys1 _ ((HR3.out.fr f4 (by simp)).sl (by omega)) (HR4.out.sl (by omega)) dx dy (by omega) (by omega)).mono ?_; rw [CN.out xs1 ys1 dx dy HVX.out HVY.out (by omega) (by omega)]; rintro e w5 ⟨v5, rfl, sw5, f5⟩)
    | (go_at_call 97; refine (zzOutW_any _ _ _ sw5 HVB.out).mono ?_; rintro e w6 ⟨v6, rfl, sw6, f6⟩)
    | (go_at_call 82; go_in))
  go_ret
  exact ⟨_, rfl, sw6, ((((f1.t f2).t f3).t f4).t f5).t f6⟩
set_option maxRecDepth 100000 in
theorem at_in (v : Value) (xs : List Int) (i : Nat) (w : World) (hx : Sl .u64 w v xs) :
    Calls Try.prog 46 #[v, .int .i64 (i : Int)] w fun e w' => e = .returned (.int .u64 (xs.getD i 0)) ∧ w = w' := by
  obtain ⟨A, cap, rfl, hlc, hm, hs⟩ := hx
  unfold maxLen at hm
  by_cases h : i < xs.length
  · obtain ⟨b, off, rfl, hb, hs⟩ := hs (by omega)
    have c := hs i h
    obtain ⟨x, hx⟩ : ∃ x, x = xs.getD i 0 := ⟨_, rfl⟩
    rw [← hx] at c ⊢
    clear hx hs
    go_enter Try.func46, Try.ntmps46
    go_wp2_with fail
    go_ret
    exact ⟨rfl, rfl⟩
  · rw [getD_out (by omega)]
    clear hs
    go_enter Try.func46, Try.ntmps46
    go_wp2_with fail
    go_ret
    exact ⟨rfl, rfl⟩
def BLRel (n : Nat) (xs ys : List Int) (w0 : World) (g : Nat) (v1 v2 v3 v4 iv : Value) (wr : World) : Prop :=
  ∃ i : Nat, i ≤ n ∧ g = n - i ∧ iv = .int .i64 i ∧ Hold .u64 31 w0 wr [(v1, zw (bits .and .u64) i xs ys), (v2, zw (bits .or .u64) i xs ys), (v3, zw (bits .xor .u64) i xs ys), (v4, zw (bits .andNot .u64) i xs ys)] ∧ Fr [] w0 wr
theorem hold_sl {k : IntKind} {T : TypeId} {w0 w : World} {L : List (Value × List Int)} (h : Hold k T w0 w L) (i : Nat) {v : Value} {xs : List Int} (hi : L[i]? = some (v, xs)) : Sl k w v xs := (h i _ hi).1.sl
theorem hold_nils (k : IntKind) (T : TypeId) (w0 w : World) : Hold k T w0 w [(.slice none 0 0, []), (.slice none 0 0, []), (.slice none 0 0, []), (.slice none 0 0, [])] := by
  have h : ∀ (i : Nat) (p : Value × List Int), [(Value.slice none 0 0, ([] : List Int)), (.slice none 0 0, []), (.slice none 0 0, []), (.slice none 0 0, [])][i]? = some p → p = (.slice none 0 0, []) := by
    intro i p hp
    rcases i with _ | _ | _ | _ | i <;> simp at hp <;> exact hp.symm
  intro i p hp
  obtain rfl := h i p hp
  refine ⟨Own.nil _ _ _ _, fun j q hq _ => Disj.nil _⟩
set_option maxRecDepth 100000 in
set_option maxHeartbeats 4000000 in
theorem fnBitwise_in (A B : Option Addr) (cap cap' p q N : Nat) (xs ys : List Int) (w : World) (hlc : p ≤ cap) (hm : cap ≤ 2 ^ 63 - 1) (hlc' : q ≤ cap') (hm' : cap' ≤ 2 ^ 63 - 1) (h2 : p ≤ 260) (h3 : q ≤ 260)
    (HP : Hid (p = xs.length)) (HQ : Hid (q = ys.length)) (HNN : Hid (N = max p q)) (HX : Hid (Sl .u64 w (.slice A p cap) xs)) (HD : Hid (DG 18446744073709551616 xs)) (HY : Hid (Sl .u64 w (.slice B q cap') ys)) (HD' : Hid (DG 18446744073709551616 ys)) :
    Calls Try.prog 12 #[.slice A p cap, .slice B q cap'] w fun e w' => e = .returned (.bool true) ∧ Fr [] w w' := by
  have f0 : Fr [] w (w.alloc (.cells #[.slice A p cap, .slice B q cap'] 22)) := (Fr.refl _ _).alloc _
  have CAnd := Lib.hid (fun W (f : Fr [] w W) => implAnd_any _ _ xs ys W (HX.out.fr0 f) HD.out (by have := HP.out; omega) (HY.out.fr0 f) HD'.out (by have := HQ.out; omega))
  have DAnd := Lib.hid (bw_dg .and (by simp) (n := max xs.length ys.length) HD.out HD'.out)
  have OAnd := Lib.hid (fun v W (h : Sl .u64 W v (zw (bits .and .u64) (max xs.length ys.length) xs ys)) => of_any v _ W h DAnd.out (by rw [zw_len]; have := HP.out; have := HQ.out; omega))
  have EAnd := Lib.hid (fun vx va W (h : SW W vx (val 18446744073709551616 (zw (bits .and .u64) (max xs.length ys.length) xs ys))) (h' : SN W va (val 18446744073709551616 (zw (bits .and .u64) (max xs.length ys.length) xs ys))) => exact_any vx va _ W h h' (words_BIG DAnd.out (by rw [zw_len]; have := HP.out; have := HQ.out; omega)))
  have COr := Lib.hid (fun W (f : Fr [] w W) => implOr_any _ _ xs ys W (HX.out.fr0 f) HD.out (by have := HP.out; omega) (HY.out.fr0 f) HD'.out (by have := HQ.out; omega))
  have DOr := Lib.hid (bw_dg .or (by simp) (n := max xs.length ys.length) HD.out HD'.out)
  have OOr := Lib.hid (fun v W (h : Sl .u64 W v (zw (bits .or .u64) (max xs.length ys.length) xs ys)) => of_any v _ W h DOr.out (by rw [zw_len]; have := HP.out; have := HQ.out; omega))
  have EOr := Lib.hid (fun vx va W (h : SW W vx (val 18446744073709551616 (zw (bits .or .u64) (max xs.length ys.length) xs ys))) (h' : SN W va (val 18446744073709551616 (zw (bits .or .u64) (max xs.length ys.length) xs ys))) => exact_any vx va _ W h h' (words_BIG DOr.out (by rw [zw_len]; have := HP.out; have := HQ.out; omega)))
  have CXor := Lib.hid (fun W (f : Fr [] w W) => implXor_any _ _ xs ys W (HX.out.fr0 f) HD.out (by have := HP.out; omega) (HY.out.fr0 f) HD'.out (by have := HQ.out; omega))
  have DXor := Lib.hid (bw_dg .xor (by simp) (n := max xs.length ys.length) HD.out HD'.out)
  have OXor := Lib.hid (fun v W (h : Sl .u64 W v (zw (bits .xor .u64) (max xs.length ys.length) xs ys)) => of_any v _ W h DXor.out (by rw [zw_len]; have := HP.out; have := HQ.out; omega))
  have EXor := Lib.hid (fun vx va W (h : SW W vx (val 18446744073709551616 (zw (bits .xor .u64) (max xs.length ys.length) xs ys))) (h' : SN W va (val 18446744073709551616 (zw (bits .xor .u64) (max xs.length ys.length) xs ys))) => exact_any vx va _ W h h' (words_BIG DXor.out (by rw [zw_len]; have := HP.out; have := HQ.out; omega)))
  have CAndNot := Lib.hid (fun W (f : Fr [] w W) => implAndNot_any _ _ xs ys W (HX.out.fr0 f) HD.out (by have := HP.out; omega) (HY.out.fr0 f) HD'.out (by have := HQ.out; omega))
  have DAndNot := Lib.hid (bw_dg .andNot (by simp) (n := max xs.length ys.length) HD.out HD'.out)
  have OAndNot := Lib.hid (fun v W (h : Sl .u64 W v (zw (bits .andNot .u64) (max xs.length ys.length) xs ys)) => of_any v _ W h DAndNot.out (by rw [zw_len]; have := HP.out; have := HQ.out; omega))
  have EAndNot := Lib.hid (fun vx va W (h : SW W vx (val 18446744073709551616 (zw (bits .andNot .u64) (max xs.length ys.length) xs ys))) (h' : SN W va (val 18446744073709551616 (zw (bits .andNot .u64) (max xs.length ys.length) xs ys))) => exact_any vx va _ W h h' (words_BIG DAndNot.out (by rw [zw_len]; have := HP.out; have := HQ.out; omega)))
  have hN : max xs.length ys.length = N := by have := HP.out; have := HQ.out; have := HNN.out; omega
  rw [hN] at CAnd DAnd OAnd EAnd COr DOr OOr EOr CXor DXor OXor EXor CAndNot DAndNot OAndNot EAndNot
  have hN9 : N ≤ 260 := by have := HNN.out; omega
  clear hN
  by_cases hpq : p < q
  · obtain rfl : N = q := by have := HNN.out; omega
    clear HNN
    have hpqi : (p : Int) < (N : Int) := by omega
    go_enter Try.func12, Try.ntmps12
    go_wp2_with (first
      | (go_at_call 20; refine (few2_yes 260 A B _ _ _ _ _ _ (by omega) h2 h3).mono ?_; rintro e w1 ⟨rfl, rfl⟩))
    go_loopg [6, 7, 8, 9, 32] N (BLRel N xs ys (w.alloc (.cells #[.slice A p cap, .slice B N cap'] 22)))
    case atStart => exact ⟨0, by omega, rfl, rfl, hold_nils _ _ _ _, Fr.refl _ _⟩
    case round =>
      obtain ⟨i, hi, rfl, rfl, hown, hf⟩ := hrel
      have HF := Lib.hid (f0.t hf)
      by_cases h1 : i < N
      · have CX := Lib.hid (fun W (f : Fr [] w W) => at_in _ xs i W (HX.out.fr0 f))
        have CY := Lib.hid (fun W (f : Fr [] w W) => at_in _ ys i W (HY.out.fr0 f))
        obtain ⟨x, hx⟩ : ∃ x, x = xs.getD i 0 := ⟨_, rfl⟩
        obtain ⟨y, hy⟩ : ∃ y, y = ys.getD i 0 := ⟨_, rfl⟩
        simp only [← hx] at CX
        simp only [← hy] at CY
        have HXI := Lib.hid hx
        have HYI := Lib.hid hy
        have HF0 := Lib.hid hf
        clear hx hy hf f0
        have HL0 := Lib.hid (show (zw (bits .and .u64) i xs ys).length < 1099511627776 by rw [zw_len]; omega)
        have HS0 := Lib.hid (zw_succ (bits .and .u64) i xs ys)
        have HL1 := Lib.hid (show (zw (bits .or .u64) i xs ys).length < 1099511627776 by rw [zw_len]; omega)
        have HS1 := Lib.hid (zw_succ (bits .or .u64) i xs ys)
        have HL2 := Lib.hid (show (zw (bits .xor .u64) i xs ys).length < 1099511627776 by rw [zw_len]; omega)
        have HS2 := Lib.hid (zw_succ (bits .xor .u64) i xs ys)
        have HL3 := Lib.hid (show (zw (bits .andNot .u64) i xs ys).length < 1099511627776 by rw [zw_len]; omega)
        have HS3 := Lib.hid (zw_succ (bits .andNot .u64) i xs ys)
        simp only [← HXI.out, ← HYI.out] at HS0 HS1 HS2 HS3
        obtain ⟨z0, hz0⟩ : ∃ z, z = zw (bits .and .u64) i xs ys := ⟨_, rfl⟩
        obtain ⟨y0, hy0⟩ : ∃ z, z = zw (bits .and .u64) (i + 1) xs ys := ⟨_, rfl⟩
        rw [← hz0] at hown HL0 HS0
        rw [← hy0] at HS0
        have HY0 := Lib.hid hy0
        clear hz0 hy0
        obtain ⟨z1, hz1⟩ : ∃ z, z = zw (bits .or .u64) i xs ys := ⟨_, rfl⟩
        obtain ⟨y1, hy1⟩ : ∃ z, z = zw (bits .or .u64) (i + 1) xs ys := ⟨_, rfl⟩
        rw [← hz1] at hown HL1 HS1
        rw [← hy1] at HS1
        have HY1 := Lib.hid hy1
        clear hz1 hy1
        obtain ⟨z2, hz2⟩ : ∃ z, z = zw (bits .xor .u64) i xs ys := ⟨_, rfl⟩
        obtain ⟨y2, hy2⟩ : ∃ z, z = zw (bits .xor .u64) (i + 1) xs ys := ⟨_, rfl⟩
        rw [← hz2] at hown HL2 HS2
        rw [← hy2] at HS2
        have HY2 := Lib.hid hy2
        clear hz2 hy2
        obtain ⟨z3, hz3⟩ : ∃ z, z = zw (bits .andNot .u64) i xs ys := ⟨_, rfl⟩
        obtain ⟨y3, hy3⟩ : ∃ z, z = zw (bits .andNot .u64) (i + 1) xs ys := ⟨_, rfl⟩
        rw [← hz3] at hown HL3 HS3
        rw [← hy3] at HS3
        have HY3 := Lib.hid hy3
        clear hz3 hy3
        have HO := Lib.hid hown
        clear hown
        go_wp2_with (first
          | (go_at_call 46; refine (CX.out _ HF.out).mono ?_; clear CX; rintro e w2 ⟨rfl, rfl⟩)
          | (go_at_call 46; refine (CY.out _ HF.out).mono ?_; clear CY; rintro e w3 ⟨rfl, rfl⟩)
          | (at_builtin; refine wp_apph rfl (.tmp 41) (.tmp 45) _ rfl .u64 _ 8 ty_uints (by omega) _ [] _ 0 _ z0 _ rfl rfl HO.out HF0.out rfl HL0.out ?_; clear HL0; intro q0 w4 own0 fr0; have HO1 := Lib.hid own0; have HG1 := Lib.hid fr0; clear own0 fr0)
          | (at_builtin; refine wp_apph rfl (.tmp 47) (.tmp 51) _ rfl .u64 _ 8 ty_uints (by omega) _ [] _ 1 _ z1 _ rfl rfl HO1.out HG1.out rfl HL1.out ?_; clear HL1; intro q1 w5 own1 fr1; have HO2 := Lib.hid own1; have HG2 := Lib.hid fr1; clear own1 fr1)
          | (at_builtin; refine wp_apph rfl (.tmp 53) (.tmp 57) _ rfl .u64 _ 8 ty_uints (by omega) _ [] _ 2 _ z2 _ rfl rfl HO2.out HG2.out rfl HL2.out ?_; clear HL2; intro q2 w6 own2 fr2; have HO3 := Lib.hid own2; have HG3 := Lib.hid fr2; clear own2 fr2)
          | (at_builtin; refine wp_apph rfl (.tmp 59) (.tmp 63) _ rfl .u64 _ 8 ty_uints (by omega) _ [] _ 3 _ z3 _ rfl rfl HO3.out HG3.out rfl HL3.out ?_; clear HL3; intro q3 w7 own3 fr3; have HO4 := Lib.hid own3; have HG4 := Lib.hid fr3; clear own3 fr3))
        go_roundg (N - (i + 1))
        case measure => omega
        case rel =>
          refine ⟨i + 1, by omega, rfl, by go_num, ?_, HG4.out⟩
          have h := HO4.out
          simp only [List.set_cons_zero, List.set_cons_succ, ← HS0.out, ← HS1.out, ← HS2.out, ← HS3.out, HY0.out, HY1.out, HY2.out, HY3.out] at h
          exact h
      · obtain rfl : i = N := by omega
        have HH := Lib.hid hown
        have HF1 := Lib.hid hf
        clear hown hf f0
        go_wp2_with (first
          | (go_at_call 47; refine (CAnd.out _ (HF.out)).mono ?_; clear CAnd; rintro e wa0 ⟨va0, rfl, swa0, fa0⟩)
          | (go_at_call 22; refine (OAnd.out _ _ ((hold_sl HH.out 0 rfl).fr0 fa0)).mono ?_; clear OAnd; rintro e wb0 ⟨vb0, rfl, snb0, fb0⟩)
          | (go_at_call 29; refine (EAnd.out _ _ _ (swa0.fr0 fb0) snb0).mono ?_; clear EAnd; rintro e wc0 ⟨rfl, fc0⟩)
          | (go_at_call 48; refine (COr.out _ ((((HF.out).t fa0).t fb0).t fc0)).mono ?_; clear COr; rintro e wa1 ⟨va1, rfl, swa1, fa1⟩)
          | (go_at_call 22; refine (OOr.out _ _ (((((hold_sl HH.out 1 rfl).fr0 fa0).fr0 fb0).fr0 fc0).fr0 fa1)).mono ?_; clear OOr; rintro e wb1 ⟨vb1, rfl, snb1, fb1⟩)
          | (go_at_call 29; refine (EOr.out _ _ _ (swa1.fr0 fb1) snb1).mono ?_; clear EOr; rintro e wc1 ⟨rfl, fc1⟩)
          | (go_at_call 49; refine (CXor.out _ (((((((HF.out).t fa0).t fb0).t fc0).t fa1).t fb1).t fc1)).mono ?_; clear CXor; rintro e wa2 ⟨va2, rfl, swa2, fa2⟩)
          | (go_at_call 22; refine (OXor.out _ _ ((((((((hold_sl HH.out 2 rfl).fr0 fa0).fr0 fb0).fr0 fc0).fr0 fa1).fr0 fb1).fr0 fc1).fr0 fa2)).mono ?_; clear OXor; rintro e wb2 ⟨vb2, rfl, snb2, fb2⟩)
          | (go_at_call 29; refine (EXor.out _ _ _ (swa2.fr0 fb2) snb2).mono ?_; clear EXor; rintro e wc2 ⟨rfl, fc2⟩)
          | (go_at_call 50; refine (CAndNot.out _ ((((((((((HF.out).t fa0).t fb0).t fc0).t fa1).t fb1).t fc1).t fa2).t fb2).t fc2)).mono ?_; clear CAndNot; rintro e wa3 ⟨va3, rfl, swa3, fa3⟩)
          | (go_at_call 22; refine (OAndNot.out _ _ (((((((((((hold_sl HH.out 3 rfl).fr0 fa0).fr0 fb0).fr0 fc0).fr0 fa1).fr0 fb1).fr0 fc1).fr0 fa2).fr0 fb2).fr0 fc2).fr0 fa3)).mono ?_; clear OAndNot; rintro e wb3 ⟨vb3, rfl, snb3, fb3⟩)
          | (go_at_call 29; refine (EAndNot.out _ _ _ (swa3.fr0 fb3) snb3).mono ?_; clear EAndNot; rintro e wc3 ⟨rfl, fc3⟩)
          | (go_at_call 48; refine (implOr_any _ _ [1] [] _ (row1 _ _ _ _) (DG.cons (by omega) (by omega) (DG.nil _)) (by simp) (Sl.nil _ _) (DG.nil _) (by simp)).mono ?_; rw [show val 18446744073709551616 (zw (bits .or .u64) (max [(1 : Int)].length ([] : List Int).length) [1] []) = 1 by decide]; rintro e w7 ⟨v7, rfl, sw7, f7⟩; obtain ⟨A7, c7, rfl⟩ := SW.one sw7))
        go_ret
        exact ⟨rfl, (((((((((((((HF.out).t fa0).t fb0).t fc0).t fa1).t fb1).t fc1).t fa2).t fb2).t fc2).t fa3).t fb3).t fc3).t (Fr.trans ((Fr.refl _ _).alloc _) f7 (by simp))⟩
  · obtain rfl : N = p := by have := HNN.out; omega
    clear HNN
    have hpqi : ¬ (N : Int) < (q : Int) := by omega
    go_enter Try.func12, Try.ntmps12
    go_wp2_with (first
      | (go_at_call 20; refine (few2_yes 260 A B _ _ _ _ _ _ (by omega) h2 h3).mono ?_; rintro e w1 ⟨rfl, rfl⟩))
    go_loopg [6, 7, 8, 9, 32] N (BLRel N xs ys (w.alloc (.cells #[.slice A N cap, .slice B q cap'] 22)))
    case atStart => exact ⟨0, by omega, rfl, rfl, hold_nils _ _ _ _, Fr.refl _ _⟩
    case round =>
      obtain ⟨i, hi, rfl, rfl, hown, hf⟩ := hrel
      have HF := Lib.hid (f0.t hf)
      by_cases h1 : i < N
      · have CX := Lib.hid (fun W (f : Fr [] w W) => at_in _ xs i W (HX.out.fr0 f))
        have CY := Lib.hid (fun W (f : Fr [] w W) => at_in _ ys i W (HY.out.fr0 f))
        obtain ⟨x, hx⟩ : ∃ x, x = xs.getD i 0 := ⟨_, rfl⟩
        obtain ⟨y, hy⟩ : ∃ y, y = ys.getD i 0 := ⟨_, rfl⟩
        simp only [← hx] at CX
        simp only [← hy] at CY
        have HXI := Lib.hid hx
        have HYI := Lib.hid hy
        have HF0 := Lib.hid hf
        clear hx hy hf f0
        have HL0 := Lib.hid (show (zw (bits .and .u64) i xs ys).length < 1099511627776 by rw [zw_len]; omega)
        have HS0 := Lib.hid (zw_succ (bits .and .u64) i xs ys)
        have HL1 := Lib.hid (show (zw (bits .or .u64) i xs ys).length < 1099511627776 by rw [zw_len]; omega)
        have HS1 := Lib.hid (zw_succ (bits .or .u64) i xs ys)
        have HL2 := Lib.hid (show (zw (bits .xor .u64) i xs ys).length < 1099511627776 by rw [zw_len]; omega)
        have HS2 := Lib.hid (zw_succ (bits .xor .u64) i xs ys)
        have HL3 := Lib.hid (show (zw (bits .andNot .u64) i xs ys).length < 1099511627776 by rw [zw_len]; omega)
        have HS3 := Lib.hid (zw_succ (bits .andNot .u64) i xs ys)
        simp only [← HXI.out, ← HYI.out] at HS0 HS1 HS2 HS3
        obtain ⟨z0, hz0⟩ : ∃ z, z = zw (bits .and .u64) i xs ys := ⟨_, rfl⟩
        obtain ⟨y0, hy0⟩ : ∃ z, z = zw (bits .and .u64) (i + 1) xs ys := ⟨_, rfl⟩
        rw [← hz0] at hown HL0 HS0
        rw [← hy0] at HS0
        have HY0 := Lib.hid hy0
        clear hz0 hy0
        obtain ⟨z1, hz1⟩ : ∃ z, z = zw (bits .or .u64) i xs ys := ⟨_, rfl⟩
        obtain ⟨y1, hy1⟩ : ∃ z, z = zw (bits .or .u64) (i + 1) xs ys := ⟨_, rfl⟩
        rw [← hz1] at hown HL1 HS1
        rw [← hy1] at HS1
        have HY1 := Lib.hid hy1
        clear hz1 hy1
        obtain ⟨z2, hz2⟩ : ∃ z, z = zw (bits .xor .u64) i xs ys := ⟨_, rfl⟩
        obtain ⟨y2, hy2⟩ : ∃ z, z = zw (bits .xor .u64) (i + 1) xs ys := ⟨_, rfl⟩
        rw [← hz2] at hown HL2 HS2
        rw [← hy2] at HS2
        have HY2 := Lib.hid hy2
        clear hz2 hy2
        obtain ⟨z3, hz3⟩ : ∃ z, z = zw (bits .andNot .u64) i xs ys := ⟨_, rfl⟩
        obtain ⟨y3, hy3⟩ : ∃ z, z = zw (bits .andNot .u64) (i + 1) xs ys := ⟨_, rfl⟩
        rw [← hz3] at hown HL3 HS3
        rw [← hy3] at HS3
        have HY3 := Lib.hid hy3
        clear hz3 hy3
        have HO := Lib.hid hown
        clear hown
        go_wp2_with (first
          | (go_at_call 46; refine (CX.out _ HF.out).mono ?_; clear CX; rintro e w2 ⟨rfl, rfl⟩)
          | (go_at_call 46; refine (CY.out _ HF.out).mono ?_; clear CY; rintro e w3 ⟨rfl, rfl⟩)
          | (at_builtin; refine wp_apph rfl (.tmp 41) (.tmp 45) _ rfl .u64 _ 8 ty_uints (by omega) _ [] _ 0 _ z0 _ rfl rfl HO.out HF0.out rfl HL0.out ?_; clear HL0; intro q0 w4 own0 fr0; have HO1 := Lib.hid own0; have HG1 := Lib.hid fr0; clear own0 fr0)
          | (at_builtin; refine wp_apph rfl (.tmp 47) (.tmp 51) _ rfl .u64 _ 8 ty_uints (by omega) _ [] _ 1 _ z1 _ rfl rfl HO1.out HG1.out rfl HL1.out ?_; clear HL1; intro q1 w5 own1 fr1; have HO2 := Lib.hid own1; have HG2 := Lib.hid fr1; clear own1 fr1)
          | (at_builtin; refine wp_apph rfl (.tmp 53) (.tmp 57) _ rfl .u64 _ 8 ty_uints (by omega) _ [] _ 2 _ z2 _ rfl rfl HO2.out HG2.out rfl HL2.out ?_; clear HL2; intro q2 w6 own2 fr2; have HO3 := Lib.hid own2; have HG3 := Lib.hid fr2; clear own2 fr2)
          | (at_builtin; refine wp_apph rfl (.tmp 59) (.tmp 63) _ rfl .u64 _ 8 ty_uints (by omega) _ [] _ 3 _ z3 _ rfl rfl HO3.out HG3.out rfl HL3.out ?_; clear HL3; intro q3 w7 own3 fr3; have HO4 := Lib.hid own3; have HG4 := Lib.hid fr3; clear own3 fr3))
        go_roundg (N - (i + 1))
        case measure => omega
        case rel =>
          refine ⟨i + 1, by omega, rfl, by go_num, ?_, HG4.out⟩
          have h := HO4.out
          simp only [List.set_cons_zero, List.set_cons_succ, ← HS0.out, ← HS1.out, ← HS2.out, ← HS3.out, HY0.out, HY1.out, HY2.out, HY3.out] at h
          exact h
      · obtain rfl : i = N := by omega
        have HH := Lib.hid hown
        have HF1 := Lib.hid hf
        clear hown hf f0
        go_wp2_with (first
          | (go_at_call 47; refine (CAnd.out _ (HF.out)).mono ?_; clear CAnd; rintro e wa0 ⟨va0, rfl, swa0, fa0⟩)
          | (go_at_call 22; refine (OAnd.out _ _ ((hold_sl HH.out 0 rfl).fr0 fa0)).mono ?_; clear OAnd; rintro e wb0 ⟨vb0, rfl, snb0, fb0⟩)
          | (go_at_call 29; refine (EAnd.out _ _ _ (swa0.fr0 fb0) snb0).mono ?_; clear EAnd; rintro e wc0 ⟨rfl, fc0⟩)
          | (go_at_call 48; refine (COr.out _ ((((HF.out).t fa0).t fb0).t fc0)).mono ?_; clear COr; rintro e wa1 ⟨va1, rfl, swa1, fa1⟩)
          | (go_at_call 22; refine (OOr.out _ _ (((((hold_sl HH.out 1 rfl).fr0 fa0).fr0 fb0).fr0 fc0).fr0 fa1)).mono ?_; clear OOr; rintro e wb1 ⟨vb1, rfl, snb1, fb1⟩)
          | (go_at_call 29; refine (EOr.out _ _ _ (swa1.fr0 fb1) snb1).mono ?_; clear EOr; rintro e wc1 ⟨rfl, fc1⟩)
          | (go_at_call 49; refine (CXor.out _ (((((((HF.out).t fa0).t fb0).t fc0).t fa1).t fb1).t fc1)).mono ?_; clear CXor; rintro e wa2 ⟨va2, rfl, swa2, fa2⟩)
          | (go_at_call 22; refine (OXor.out _ _ ((((((((hold_sl HH.out 2 rfl).fr0 fa0).fr0 fb0).fr0 fc0).fr0 fa1).fr0 fb1).fr0 fc1).fr0 fa2)).mono ?_; clear OXor; rintro e wb2 ⟨vb2, rfl, snb2, fb2⟩)
          | (go_at_call 29; refine (EXor.out _ _ _ (swa2.fr0 fb2) snb2).mono ?_; clear EXor; rintro e wc2 ⟨rfl, fc2⟩)
          | (go_at_call 50; refine (CAndNot.out _ ((((((((((HF.out).t fa0).t fb0).t fc0).t fa1).t fb1).t fc1).t fa2).t fb2).t fc2)).mono ?_; clear CAndNot; rintro e wa3 ⟨va3, rfl, swa3, fa3⟩)
          | (go_at_call 22; refine (OAndNot.out _ _ (((((((((((hold_sl HH.out 3 rfl).fr0 fa0).fr0 fb0).fr0 fc0).fr0 fa1).fr0 fb1).fr0 fc1).fr0 fa2).fr0 fb2).fr0 fc2).fr0 fa3)).mono ?_; clear OAndNot; rintro e wb3 ⟨vb3, rfl, snb3, fb3⟩)
          | (go_at_call 29; refine (EAndNot.out _ _ _ (swa3.fr0 fb3) snb3).mono ?_; clear EAndNot; rintro e wc3 ⟨rfl, fc3⟩)
          | (go_at_call 48; refine (implOr_any _ _ [1] [] _ (row1 _ _ _ _) (DG.cons (by omega) (by omega) (DG.nil _)) (by simp) (Sl.nil _ _) (DG.nil _) (by simp)).mono ?_; rw [show val 18446744073709551616 (zw (bits .or .u64) (max [(1 : Int)].length ([] : List Int).length) [1] []) = 1 by decide]; rintro e w7 ⟨v7, rfl, sw7, f7⟩; obtain ⟨A7, c7, rfl⟩ := SW.one sw7))
        go_ret
        exact ⟨rfl, (((((((((((((HF.out).t fa0).t fb0).t fc0).t fa1).t fb1).t fc1).t fa2).t fb2).t fc2).t fa3).t fb3).t fc3).t (Fr.trans ((Fr.refl _ _).alloc _) f7 (by simp))⟩
set_option maxRecDepth 100000 in
set_option maxHeartbeats 1000000 in
theorem law_FnBitwise (v : Value) (xs : List Int) (u : Value) (ys : List Int) (w : World) (hx : Sl .u64 w v xs) (hd : DG 18446744073709551616 xs) (hy : Sl .u64 w u ys) (hd' : DG 18446744073709551616 ys) :
    Calls Try.prog 12 #[v, u] w fun e w' => e = .returned (.bool true) ∧ Fr [] w w' := by
  have HX := Lib.hid hx
  have HD := Lib.hid hd
  have HY := Lib.hid hy
  have HD' := Lib.hid hd'
  obtain ⟨A, cap, rfl, hlc, hm, hs⟩ := hx
  obtain ⟨B, cap', rfl, hlc', hm', hs'⟩ := hy
  unfold maxLen at hm hm'
  clear hs hd hs' hd'
  by_cases h1 : 2147483647 < xs.length
  · go_enter Try.func12, Try.ntmps12
    go_wp2_with fail
    go_ret
    exact ⟨rfl, Fr.refl _ _⟩
  by_cases h1' : 2147483647 < ys.length
  · go_enter Try.func12, Try.ntmps12
    go_wp2_with fail
    go_ret
    exact ⟨rfl, Fr.refl _ _⟩
  by_cases h2 : xs.length ≤ 260 ∧ ys.length ≤ 260
  case neg =>
    go_enter Try.func12, Try.ntmps12
    go_wp2_with (go_at_call 20; refine (few2_no 260 A B _ _ _ _ _ _ (by omega) (by omega) (by omega) (by omega)).mono ?_; rintro e w1 ⟨rfl, rfl⟩)
    go_ret
    exact ⟨rfl, (Fr.refl _ _).alloc _⟩
  exact fnBitwise_in A B cap cap' xs.length ys.length _ xs ys w hlc hm hlc' hm' h2.1 h2.2 (Lib.hid rfl) (Lib.hid rfl) (Lib.hid rfl) HX HD HY HD'
end Go.Proofs.Ytjapebgihnahjaa
