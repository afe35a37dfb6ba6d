/-
  same and alias of a nil slice, nat.lsh and nat.rsh at a nil receiver. Conditions: what is read can be read.
  nat.rsh at a nil receiver, the reference's Shr. Conditions: what is read can be read.
-/
import Derived.Test.YtbepihdlaidikaaDoorSetN
import Derived.Test.YtbepihdlaidikaaDoorgShift
import Derived.Deep.QuietTactic
import Derived.BigQuiet
import Derived.Test.YtbepihdlaidikaaDoorgBase
set_option linter.unusedSimpArgs false
set_option linter.unusedVariables false
section
namespace Go.Big
open Go.RowKit
theorem spl_front {c q : Nat} {cs : List Int} (h : q + cs.length ≤ c) : spl (spl (List.replicate c 0) q cs) 0 (List.replicate q 0) = spl (List.replicate c 0) 0 (List.replicate q 0 ++ cs) := by
  unfold spl
  simp only [List.take_replicate, List.drop_replicate, List.length_replicate, List.take_zero, List.nil_append, Nat.zero_add, List.length_append, List.append_assoc]
  simp only [Nat.zero_min, List.replicate_zero, List.nil_append, List.append_assoc]
  congr 1
  rw [Nat.min_eq_left (show q ≤ c by omega), List.drop_append, List.length_replicate, Nat.sub_self, List.drop_zero, List.drop_eq_nil_of_le (by simp)]
  simp
theorem row_top {k : IntKind} {T : TypeId} {W : World} {z c q m : Nat} {zs : List Int} (h : Row k T W z (spl (List.replicate c 0) q zs)) (hl : zs.length = m) (hc : m + q + 1 ≤ c) (x : Int) :
    Row k T (W.setCell ⟨z, m + q, none⟩ (.int k x)) z (spl (List.replicate c 0) q (zs ++ [x])) := by
  have := h.set (m + q) x
  rw [Nat.add_comm m q, ← hl, spl_set_end (by simp; omega)] at this
  rw [Nat.add_comm m q, ← hl]
  exact this
end Go.Big
namespace Go.Proofs.YtbepihdlaidikaaDoor
open Go.Big Go.RowKit
set_option maxRecDepth 100000 in
theorem same_nil (A : Option Addr) (n c : Nat) (w : World) : Calls Tryd.prog 31 #[.slice none 0 0, .slice A n c] w fun e w' => e = .returned (.bool false) ∧ Fr [] w w' := by
  by_cases h : n = 0
  · subst h
    go_enter Tryd.func31, Tryd.ntmps31
    go_wp2_with fail
    go_quiet (fail)
    go_wp2_with fail
    go_ret
    exact ⟨rfl, (Fr.refl _ _).drewN _⟩
  · have h0 : ((0 : Int) == (n : Int)) = false := by rw [beq_eq_false_iff_ne]; omega
    go_enter Tryd.func31, Tryd.ntmps31
    go_wp2_with fail
    go_quiet (fail)
    go_wp2_with fail
    go_ret
    exact ⟨rfl, (Fr.refl _ _).drewN _⟩
set_option maxRecDepth 100000 in
theorem alias_nil (A : Option Addr) (n c : Nat) (w : World) : Calls Tryd.prog 32 #[.slice none 0 0, .slice A n c] w fun e w' => e = .returned (.bool false) ∧ Fr [] w w' := by
  go_enter Tryd.func32, Tryd.ntmps32
  go_wp2_with fail
  go_quiet (fail)
  go_wp2_with fail
  go_ret
  exact ⟨rfl, (Fr.refl _ _).drewN _⟩
end Go.Proofs.YtbepihdlaidikaaDoor
end
section
namespace Go.Proofs.YtbepihdlaidikaaDoor
open Go.Big Go.RowKit
theorem div_drop {B : Int} {xs : List Int} {q : Nat} (hB : 0 < B) (hd : DG B xs) (hq : q ≤ xs.length) : val B xs / B ^ q = val B (xs.drop q) := by
  have h1 := val_nonneg hB (hd.take q)
  have h2 := val_lt hB (hd.take q)
  have hp := pow_pos_ hB q
  rw [List.length_take, Nat.min_eq_left hq] at h2
  rw [val_split B xs q hq, Int.add_mul_ediv_left _ _ (by omega), Int.ediv_eq_zero_of_lt h1 h2, Int.zero_add]
theorem shr_zero {B : Int} {xs : List Int} {s a : Nat} (hB : B = 2 ^ a) (hd : DG B xs) (hs : a * xs.length ≤ s) : val B xs / 2 ^ s = 0 := by
  have hB0 : 0 < B := by rw [hB]; exact pow_pos_ (by omega) a
  have h1 := val_nonneg hB0 hd
  have h2 := val_lt hB0 hd
  have h3 := pow_le_pow_ (B := 2) (by omega) hs
  rw [Int.pow_mul, ← hB] at h3
  exact Int.ediv_eq_zero_of_lt h1 (by omega)
theorem rsh_val {z c Y : Int} {r : Nat} (hr : r < 64) (h0 : 0 ≤ c) (h1 : c < 18446744073709551616) (h : z * 18446744073709551616 + c = Y * 2 ^ (64 - r)) : z = Y / 2 ^ r := by
  have e : (18446744073709551616 : Int) = 2 ^ r * 2 ^ (64 - r) := by rw [← Int.pow_add, show r + (64 - r) = 64 by omega]; rfl
  have e2 : z = (z * 18446744073709551616 + c) / 18446744073709551616 := by
    rw [Int.add_comm, Int.add_mul_ediv_right _ _ (by omega), Int.ediv_eq_zero_of_lt h0 h1, Int.zero_add]
  rw [e2, h, e]
  exact Int.mul_ediv_mul_of_pos_left _ _ (pow_pos_ (by omega) _)
set_option maxRecDepth 100000 in
set_option maxHeartbeats 1000000 in
theorem rsh_any (v : Value) (X : Int) (s : Nat) (w : World) (h : SW w v X) (hX : X < BIG) (hs9 : s ≤ 1000000) : Calls Tryd.prog 27 #[.slice none 0 0, v, .int .u64 (s : Int)] w (RetW (X / 2 ^ s) w) := by
  have H := Lib.hid h
  obtain ⟨xs, sl, dx, zx, rfl⟩ := h
  have hl := len_BIG64 dx zx hX
  have SL := Lib.hid sl
  obtain ⟨A, cap, rfl, hlc, hm, hsrc⟩ := sl
  unfold maxLen at hm
  have DX := Lib.hid dx
  have ZX := Lib.hid zx
  have HXB := Lib.hid hX
  by_cases hs0 : s = 0
  · subst hs0
    rw [show (2 : Int) ^ 0 = 1 from rfl, Int.ediv_one]
    clear hsrc dx zx hX
    go_enter Tryd.func27, Tryd.ntmps27
    go_wp2_with (first
      | (go_at_call 31; refine (same_nil _ _ _ _).mono ?_; rintro e w1 ⟨rfl, f1⟩)
      | (go_at_call 32; refine (alias_nil _ _ _ _).mono ?_; rintro e w2 ⟨rfl, f2⟩)
      | (go_at_call 33; refine (set_any _ _ _ ((H.out.fr0 f1).fr0 f2) HXB.out).mono ?_; rintro e w3 ⟨v3, rfl, sw3, f3⟩))
    go_ret
    exact ⟨_, rfl, sw3, (f1.t f2).t f3⟩
  have hse : ((s : Int) == 0) = false := by rw [beq_eq_false_iff_ne]; omega
  obtain ⟨q, hq⟩ : ∃ q, q = s / 64 := ⟨_, rfl⟩
  obtain ⟨r, hr⟩ : ∃ r, r = s % 64 := ⟨_, rfl⟩
  have hkq : (s : Int) / 64 = (q : Int) := by omega
  have hkr : (s : Int) % 64 = (r : Int) := by omega
  have hr64 : r < 64 := by omega
  have hq9 : q ≤ 20000 := by omega
  have hn2 : s = 64 * q + r := by omega
  by_cases hl0 : xs.length ≤ q
  · rw [shr_zero (B := 18446744073709551616) (a := 64) (by decide) dx (by omega)]
    have hw : IntKind.i64.wrap ((xs.length : Int) - (q : Int)) = (xs.length : Int) - (q : Int) := by rw [IntKind.wrap_i64]; omega
    clear hsrc dx zx hX hq hr hn2
    go_enter Tryd.func27, Tryd.ntmps27
    go_wp2_with fail
    go_ret
    exact ⟨_, rfl, SW.zero _, Fr.refl _ _⟩
  obtain ⟨n, hn⟩ : ∃ n, xs.length = n + q := ⟨xs.length - q, by omega⟩
  have hn0 : 0 < n := by omega
  have hv : val 18446744073709551616 xs / 2 ^ s = val 18446744073709551616 (xs.drop q) / 2 ^ r := by
    have e : (2 : Int) ^ s = 18446744073709551616 ^ q * 2 ^ r := by rw [hn2, Int.pow_add, Int.pow_mul]; rfl
    rw [e, ← Int.ediv_ediv_of_nonneg (Int.le_of_lt (pow_pos_ (by omega) q)), div_drop (by omega) dx (by omega)]
  rw [hv]
  obtain ⟨b, off, rfl, hb, hs⟩ := hsrc (by omega)
  have HSD := Lib.hid (hs.drop q)
  have HLD := Lib.hid (show (xs.drop q).length = n by rw [List.length_drop]; omega)
  have HDD := Lib.hid (dx.drop q)
  have HM := Lib.hid (fun W => make_any n W hn0 (by omega))
  have hcx : ¬ cap = q := by omega
  have hlc2 : n ≤ cap - q := by omega
  rw [hn] at hl hlc hl0 ⊢
  have hw : IntKind.i64.wrap (((n + q : Nat) : Int) - (q : Int)) = (n : Int) := by rw [IntKind.wrap_i64]; omega
  have hw1 : ((n + q : Nat) : Int) - (q : Int) = (n : Int) := by omega
  have hw2 : ((n + q : Nat) : Int) - (n : Int) = (q : Int) := by omega
  have hw3 : IntKind.i64.wrap (((n + q : Nat) : Int) - (n : Int)) = (q : Int) := by rw [IntKind.wrap_i64]; omega
  have hw4 : (n : Int) + (q : Int) - (q : Int) = (n : Int) := by omega
  have hw5 : (n : Int) + (q : Int) - (n : Int) = (q : Int) := by omega
  have hw6 : n + q - q = n := by omega
  by_cases hr0 : r = 0
  · subst hr0
    have hkr : (s : Int) % 64 = 0 := by omega
    rw [show (2 : Int) ^ 0 = 1 from rfl, Int.ediv_one]
    clear hsrc dx zx hX hq hr hn2 hs hv hn SL H
    go_enter Tryd.func27, Tryd.ntmps27
    go_wp2_with (first
      | (go_at_call 29; refine (HM.out _).mono ?_; rintro e w1 ⟨z, c, rfl, hc1, hc2, row, hz, f⟩; have HROW := Lib.hid row; clear row)
      | (refine wp_copy rfl (.tmp 40) (.tmp 45) _ _ rfl .u64 48 Tryd.underlying36 size_wordS z 0 n c rfl _ (xs.drop q) rfl ((HSD.out.fr f (by simp)).sl HLD.out hlc2 (by unfold maxLen; omega)) (List.replicate c 0) HROW.out (by simp; omega) ?_; intro w2 row2 f2; rw [List.take_of_length_le (by rw [HLD.out]; omega)] at row2; have HR2 := Lib.hid row2; clear row2)
      | (go_at_call 26; refine (bnorm_sl _ (xs.drop q) _ ((src_spl HR2.out (by rw [HLD.out]; simp; omega)).sl HLD.out hc1 (by unfold maxLen; omega)) HDD.out).mono ?_; rintro e w4 ⟨⟨v4, rfl, sw4⟩, rfl⟩))
    go_ret
    exact ⟨_, rfl, sw4, fr_new'' f f2 hz⟩
  · have hre : ((r : Int) == 0) = false := by rw [beq_eq_false_iff_ne]; omega
    clear hsrc dx zx hX hq hr hn2 hs hv hn SL H
    go_enter Tryd.func27, Tryd.ntmps27
    go_wp2_with (first
      | (go_at_call 29; refine (HM.out _).mono ?_; rintro e w1 ⟨z, c, rfl, hc1, hc2, row, hz, f⟩; have HROW := Lib.hid row; clear row)
      | (go_at_call 34; go_in)
      | (go_at_call 36; refine (rshVU_any z 0 c b (off + q) (cap - q) n r (List.replicate c 0) (xs.drop q) _ HROW.out (by simp; omega) HLD.out (HSD.out.fr f (by simp)) HDD.out hr64 (.inl (by omega)) hc1 hlc2 (by unfold maxLen; omega) (by omega)).mono ?_; rintro e w2 ⟨zs, k, rfl, row2, f2, hzl, hzd, hk0, hk1, hv⟩; have HZL := Lib.hid hzl; have HV := Lib.hid (rsh_val hr64 hk0 hk1 hv); have HR2 := Lib.hid row2; clear row2 hzl hv)
      | (go_at_call 26; refine (bnorm_sl _ zs _ ((src_spl HR2.out (by rw [HZL.out]; simp; omega)).sl HZL.out hc1 (by unfold maxLen; omega)) hzd).mono ?_; rw [HV.out]; rintro e w4 ⟨⟨v4, rfl, sw4⟩, rfl⟩))
    go_ret
    exact ⟨_, rfl, sw4, fr_new'' f f2 hz⟩
end Go.Proofs.YtbepihdlaidikaaDoor
end
