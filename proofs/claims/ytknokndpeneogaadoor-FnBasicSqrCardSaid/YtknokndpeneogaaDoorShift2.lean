/-
  lshVU_g and rshVU_g, walked. Conditions: what is read can be read, what is written is a row; where both lie in one row, what is still to be read has not been written.
-/
import Derived.Test.YtknokndpeneogaaDoorShift
set_option linter.unusedSimpArgs false
set_option linter.unusedVariables false
namespace Go.Proofs.YtknokndpeneogaaDoor
open Go.Big Go.RowKit

theorem size_word : (Tryd.prog.info? 77).map (·.size) = some 1 := by kernel_rfl

theorem shl_split (x : Int) (s : Nat) (hs : s < 64) : x * 2 ^ s / 18446744073709551616 = x / 2 ^ (64 - s) := by
  have e : (18446744073709551616 : Int) = 2 ^ (64 - s) * 2 ^ s := by rw [← Int.pow_add, show 64 - s + s = 64 by omega]; rfl
  rw [e]
  exact Int.mul_ediv_mul_of_pos_left _ _ (pow_pos_ (by omega) s)

/-- what a shift to the left leaves -/
def LshPost (T : TypeId) (w : World) (bz oz n s : Nat) (L xs : List Int) (e : Ending) (w' : World) : Prop :=
  ∃ (zs : List Int) (c : Int), e = .returned (.int .u64 c) ∧ Row .u64 T w' bz (spl L oz zs) ∧ Fr [bz] w w' ∧ zs.length = n ∧ DG 18446744073709551616 zs ∧ 0 ≤ c ∧ c < 2 ^ s ∧
    val 18446744073709551616 zs + 18446744073709551616 ^ n * c = 2 ^ s * val 18446744073709551616 xs

def LshRel (T : TypeId) (w : World) (bz oz m s : Nat) (L xs : List Int) (c0 : Int) (g : Nat) (iv : Value) (wr : World) : Prop :=
  ∃ (i : Nat) (suf : List Int), i ≤ m ∧ g = i + 1 ∧ iv = .int .i64 i ∧ Row .u64 T wr bz (spl L (oz + i + 1) suf) ∧ Fr [bz] w wr ∧ suf.length = m - i ∧ DG 18446744073709551616 suf ∧
    2 ^ s * val 18446744073709551616 (xs.drop i) = (xs.getD i 0 * 2 ^ s) % 18446744073709551616 + 18446744073709551616 * (val 18446744073709551616 suf + 18446744073709551616 ^ (m - i) * c0)
theorem lsh_step {W P S V z a b b2 c q : Int} (h : P * V = a + W * (S + q * c)) (hz : z = a + b2) (hb : b * P = (b * P) % W + W * b2) :
    P * (b + W * V) = (b * P) % W + W * (z + W * S + W * q * c) := by
  subst hz
  have e : P * (b + W * V) = b * P + W * (P * V) := by grind
  rw [e, h]
  grind

set_option maxRecDepth 100000 in
set_option maxHeartbeats 2000000 in
theorem lshVU_any (bz oz cz bx ox cx n s : Nat) (L xs : List Int) (w : World) (hz : Row .u64 77 w bz L) (hfit : oz + n ≤ L.length) (hn : xs.length = n) (hx : Src .u64 w bx ox xs)
    (hd : DG 18446744073709551616 xs) (hs : s < 64) (hal : bx ≠ bz ∨ ox ≤ oz ∨ oz + n ≤ ox) (hcz : n ≤ cz) (hcx : n ≤ cx) (hmx : cx ≤ maxLen) (hn9 : n ≤ 1000000000) :
    Calls Tryd.prog 126 #[.slice (some ⟨bz, oz, none⟩) n cz, .slice (some ⟨bx, ox, none⟩) n cx, .int .u64 (s : Int)] w (LshPost 77 w bz oz n s L xs) := by
  have HD := Lib.hid hd
  have HX := Lib.hid hx
  have HZ := Lib.hid hz
  have HN := Lib.hid hn
  have HAL := Lib.hid hal
  clear hd
  by_cases hs0 : s = 0
  · subst hs0
    have hsl := hx.sl hn hcx hmx
    clear hx hz hn hal
    go_enter Tryd.func126, Tryd.ntmps126
    go_wp2_with (refine wp_copy rfl (.tmp 17) (.tmp 18) _ _ rfl .u64 77 Tryd.underlying57 size_word bz oz n cz rfl (.slice (some ⟨bx, ox, none⟩) n cx) xs rfl hsl L HZ.out hfit ?_; intro w1 row1 f1)
    go_ret
    refine ⟨xs, 0, rfl, ?_, f1, HN.out, HD.out, by omega, by simp, by simp⟩
    rwa [List.take_of_length_le (by rw [HN.out]; omega)] at row1
  · have h63 : bits .and .u64 (s : Int) 63 = (s : Int) := by
      rw [show (63 : Int) = ((2 ^ 6 - 1 : Nat) : Int) from rfl, u64_and_nat _ _ (by omega) (by omega), Nat.and_two_pow_sub_one_eq_mod, Nat.mod_eq_of_lt (by omega)]
    have h63' : bits .and .u64 (64 - (s : Int)) 63 = 64 - (s : Int) := by
      have e : (64 - (s : Int)) = ((64 - s : Nat) : Int) := by omega
      rw [e, show (63 : Int) = ((2 ^ 6 - 1 : Nat) : Int) from rfl, u64_and_nat _ _ (by omega) (by omega), Nat.and_two_pow_sub_one_eq_mod, Nat.mod_eq_of_lt (by omega)]
    have hse : ((s : Int) == 0) = false := by simp; omega
    have hm1 : min s 64 = s := by omega
    have hm2 : min (64 - s) 64 = 64 - s := by omega
    rcases Nat.eq_zero_or_pos n with h0 | h0
    · subst h0
      clear hx hz hn hal
      go_enter Tryd.func126, Tryd.ntmps126
      go_wp2_with fail
      go_ret
      refine ⟨[], 0, rfl, by rw [spl_nil]; exact HZ.out, Fr.refl _ _, rfl, DG.nil _, by omega, pow_pos_ (by omega) s, ?_⟩
      rw [List.eq_nil_of_length_eq_zero HN.out]; simp [val_nil]
    · obtain ⟨m, hm⟩ : ∃ m, n = m + 1 := ⟨n - 1, by omega⟩
      subst hm
      have cm := hx m (by omega)
      obtain ⟨xm, hxm⟩ : ∃ xm, xm = xs.getD m 0 := ⟨_, rfl⟩
      rw [← hxm] at cm
      have hxd := HD.out.getD (by omega) m
      rw [← hxm] at hxd
      obtain ⟨hx0, hx1⟩ := hxd
      have HXM := Lib.hid hxm
      have hnz : ((m : Int) + 1 == 0) = false := by simp; omega
      clear hx hz hn hal hxm
      go_enter Tryd.func126, Tryd.ntmps126
      go_wp2_with fail
      obtain ⟨c0, hc0⟩ : ∃ c0, c0 = xm / 2 ^ (64 - s) := ⟨_, rfl⟩
      rw [← hc0]
      have HC0 := Lib.hid hc0
      clear hc0 cm
      go_loopg [8] (m + 1) (LshRel 77 w bz oz m s L xs c0)
      case atStart =>
        refine ⟨m, [], Nat.le_refl _, rfl, rfl, by rw [spl_nil]; exact HZ.out, Fr.refl _ _, by simp, DG.nil _, ?_⟩
        have e : xs.drop m = [xm] := by
          rw [List.drop_eq_getElem_cons (by rw [HN.out]; omega), List.drop_eq_nil_of_le (by rw [HN.out]; omega), HXM.out, getD_in (by rw [HN.out]; omega)]
        have e2 := Int.emod_add_mul_ediv (xm * 2 ^ s) 18446744073709551616
        rw [shl_split xm s hs, ← HC0.out] at e2
        rw [e, ← HXM.out]
        simp only [val_cons, val_nil, Nat.sub_self, Int.pow_zero]
        grind
      case round =>
        obtain ⟨i, suf, hi, rfl, rfl, hrow, hf, hl, hdg, hv⟩ := hrel
        have HV := Lib.hid hv
        have HL := Lib.hid hl
        have hfz := hrow.frozen (oz + i)
        have hlen : (spl L (oz + i + 1) suf).length = L.length := spl_len (by omega)
        have cz := hrow.cell (i := oz + i) (by omega)
        obtain ⟨old, hold⟩ : ∃ old, old = (spl L (oz + i + 1) suf).getD (oz + i) 0 := ⟨_, rfl⟩
        rw [← hold] at cz
        have cx1 := HX.out.spl HZ.out hrow hf (by omega) (j := i) (by rw [HN.out]; omega) (by rcases HAL.out with h | h | h; exact .inl h; exact .inr (.inl (by omega)); exact .inr (.inr (by omega)))
        obtain ⟨x1, hx1⟩ : ∃ x1, x1 = xs.getD i 0 := ⟨_, rfl⟩
        rw [← hx1] at cx1
        have hxd1 := HD.out.getD (by omega) i
        rw [← hx1] at hxd1
        obtain ⟨hx10, hx11⟩ := hxd1
        have HX1 := Lib.hid hx1
        clear hold hlen hv hl hx1
        rcases Nat.eq_zero_or_pos i with h00 | h00
        · subst h00
          simp only [Nat.add_zero] at cx1 cz hfz
          go_wp2_with fail
          go_ret
          have e2 := Int.emod_add_mul_ediv (x1 * 2 ^ s) 18446744073709551616
          refine ⟨IntKind.u64.wrap (x1 * 2 ^ s) :: suf, c0, rfl, ?_, hf.set (.inl (by simp)) _, by rw [List.length_cons, HL.out]; omega, ?_, ?_, ?_, ?_⟩
          · have := hrow.set oz (IntKind.u64.wrap (x1 * 2 ^ s))
            rwa [Nat.add_zero, spl_set_top (by omega)] at this
          · rw [IntKind.wrap_u64]; exact DG.cons (Int.emod_nonneg _ (by omega)) (Int.emod_lt_of_pos _ (by omega)) hdg
          · rw [HC0.out]; exact Int.ediv_nonneg hx0 (Int.le_of_lt (pow_pos_ (by omega) _))
          · rw [HC0.out]
            have e : (18446744073709551616 : Int) = 2 ^ s * 2 ^ (64 - s) := by rw [← Int.pow_add, show s + (64 - s) = 64 by omega]; rfl
            rw [e] at hx1
            exact Int.ediv_lt_of_lt_mul (pow_pos_ (by omega) _) hx1
          · have h := HV.out
            rw [List.drop_zero, ← HX1.out, Nat.sub_zero] at h
            rw [h, val_cons, IntKind.wrap_u64, Int.pow_succ]
            grind
        · obtain ⟨j, rfl⟩ : ∃ j, i = j + 1 := ⟨i - 1, by omega⟩
          have cx2 := HX.out.spl HZ.out hrow hf (by have := HL.out; omega) (j := j) (by rw [HN.out]; omega) (by rcases HAL.out with h | h | h; exact .inl h; exact .inr (.inl (by omega)); exact .inr (.inr (by have := HL.out; omega)))
          obtain ⟨x2, hx2⟩ : ∃ x2, x2 = xs.getD j 0 := ⟨_, rfl⟩
          rw [← hx2] at cx2
          have hxd2 := HD.out.getD (by omega) j
          rw [← hx2] at hxd2
          obtain ⟨hx20, hx21⟩ := hxd2
          have HX2 := Lib.hid hx2
          have hor := or_shift x1 x2 s (by omega) hs hx10 hx20 hx21
          have HOR := Lib.hid hor
          have hw1 : IntKind.i64.wrap ((j : Int) + 1) = (j : Int) + 1 := IntWalk.i64_in _ (by omega)
          have hw2 : IntKind.i64.wrap (j : Int) = (j : Int) := IntWalk.i64_in _ (by omega)
          have hj1 : (j : Int) + 1 < (m : Int) + 1 := by omega
          have hj2 : (j : Int) < (m : Int) + 1 := by omega
          have hj3 : 0 ≤ (j : Int) + 1 := by omega
          have htn : ((j : Int) + 1).toNat = j + 1 := by omega
          clear hx2 hor
          go_wp2_with fail
          go_region
          go_wp2_with fail
          go_roundg (j + 1)
          case measure => omega
          case rel =>
            obtain ⟨z, hz⟩ : ∃ z, z = bits BinOp.or IntKind.u64 (IntKind.u64.wrap (x1 * 2 ^ s)) (x2 / 2 ^ (64 - s)) := ⟨_, rfl⟩
            have hz2 : z = x1 * 2 ^ s % 18446744073709551616 + x2 / 2 ^ (64 - s) := by rw [hz]; exact HOR.out
            have hzb : 0 ≤ z ∧ z < 18446744073709551616 := by
              rw [hz]
              have h1 := bits_lo_u64 .or (IntKind.u64.wrap (x1 * 2 ^ s)) (x2 / 2 ^ (64 - s))
              have h2 := bits_hi_u64 .or (IntKind.u64.wrap (x1 * 2 ^ s)) (x2 / 2 ^ (64 - s))
              omega
            rw [← hz]
            refine ⟨j, z :: suf, by omega, rfl, by go_num, ?_, (hf.set (.inl (by simp)) _).drewN 1, by rw [List.length_cons, HL.out]; omega, DG.cons hzb.1 hzb.2 hdg, ?_⟩
            · have := hrow.set (oz + (j + 1)) z
              rw [spl_set_top (by omega)] at this
              exact this.drewN 1
            · have h := HV.out
              have hj : j < xs.length := by rw [HN.out]; omega
              rw [← HX1.out] at h
              rw [List.drop_eq_getElem_cons hj, ← getD_in hj, ← HX2.out, val_cons, val_cons]
              have hb : x2 * 2 ^ s = (x2 * 2 ^ s) % 18446744073709551616 + 18446744073709551616 * (x2 / 2 ^ (64 - s)) := by
                rw [← shl_split x2 s hs]; exact (Int.emod_add_mul_ediv _ _).symm
              rw [lsh_step h hz2 hb, show m - j = m - (j + 1) + 1 by omega, Int.pow_succ]
              grind

theorem or_shift_r (a b : Int) (s : Nat) (hs0 : 0 < s) (hs : s < 64) (ha0 : 0 ≤ a) (hb0 : 0 ≤ b) (hb : b < 18446744073709551616) :
    bits .or .u64 (b / 2 ^ s) (IntKind.u64.wrap (a * 2 ^ (64 - s))) = b / 2 ^ s + (a * 2 ^ (64 - s)) % 18446744073709551616 := by
  have h := or_shift a b (64 - s) (by omega) (by omega) ha0 hb0 hb
  rw [show 64 - (64 - s) = s by omega] at h
  have e : bits .or .u64 (b / 2 ^ s) (IntKind.u64.wrap (a * 2 ^ (64 - s))) = bits .or .u64 (IntKind.u64.wrap (a * 2 ^ (64 - s))) (b / 2 ^ s) := by
    show IntKind.u64.wrap ((BitVec.ofInt 64 _ ||| BitVec.ofInt 64 _).toNat : Int) = IntKind.u64.wrap ((BitVec.ofInt 64 _ ||| BitVec.ofInt 64 _).toNat : Int)
    rw [BitVec.or_comm]
  rw [e, h]; omega

/-- what a shift to the right leaves -/
def RshPost (T : TypeId) (w : World) (bz oz n s : Nat) (L xs : List Int) (e : Ending) (w' : World) : Prop :=
  ∃ (zs : List Int) (c : Int), e = .returned (.int .u64 c) ∧ Row .u64 T w' bz (spl L oz zs) ∧ Fr [bz] w w' ∧ zs.length = n ∧ DG 18446744073709551616 zs ∧ 0 ≤ c ∧ c < 18446744073709551616 ∧
    val 18446744073709551616 zs * 18446744073709551616 + c = val 18446744073709551616 xs * 2 ^ (64 - s)

def RshRel (T : TypeId) (w : World) (bz oz m s : Nat) (L xs : List Int) (c0 : Int) (g : Nat) (iv : Value) (wr : World) : Prop :=
  ∃ (i : Nat) (pre : List Int), i ≤ m ∧ g = m + 1 - i ∧ iv = .int .i64 (i + 1 : Nat) ∧ Row .u64 T wr bz (spl L oz pre) ∧ Fr [bz] w wr ∧ pre.length = i ∧ DG 18446744073709551616 pre ∧
    val 18446744073709551616 (xs.take (i + 1)) * 2 ^ (64 - s) = c0 + 18446744073709551616 * (val 18446744073709551616 pre + 18446744073709551616 ^ i * (xs.getD i 0 / 2 ^ s))

theorem shr_split (x : Int) (s : Nat) (hs : s < 64) : x * 2 ^ (64 - s) = (x * 2 ^ (64 - s)) % 18446744073709551616 + 18446744073709551616 * (x / 2 ^ s) := by
  by_cases h : s = 0
  · subst h
    simp only [Nat.sub_zero, Int.pow_zero, Int.ediv_one]
    rw [show (2 : Int) ^ 64 = 18446744073709551616 by rfl, Int.mul_emod_left]; omega
  · have e := shl_split x (64 - s) (by omega)
    rw [show 64 - (64 - s) = s by omega] at e
    rw [← e]
    exact (Int.emod_add_mul_ediv _ _).symm

set_option maxRecDepth 100000 in
set_option maxHeartbeats 2000000 in
theorem rshVU_any (bz oz cz bx ox cx n s : Nat) (L xs : List Int) (w : World) (hz : Row .u64 77 w bz L) (hfit : oz + n ≤ L.length) (hn : xs.length = n) (hx : Src .u64 w bx ox xs)
    (hd : DG 18446744073709551616 xs) (hs : s < 64) (hal : bx ≠ bz ∨ oz ≤ ox ∨ ox + n ≤ oz) (hcz : n ≤ cz) (hcx : n ≤ cx) (hmx : cx ≤ maxLen) (hn9 : n ≤ 1000000000) :
    Calls Tryd.prog 152 #[.slice (some ⟨bz, oz, none⟩) n cz, .slice (some ⟨bx, ox, none⟩) n cx, .int .u64 (s : Int)] w (RshPost 77 w bz oz n s L xs) := by
  have HD := Lib.hid hd
  have HX := Lib.hid hx
  have HZ := Lib.hid hz
  have HN := Lib.hid hn
  have HAL := Lib.hid hal
  clear hd
  by_cases hs0 : s = 0
  · subst hs0
    have hsl := hx.sl hn hcx hmx
    clear hx hz hn hal
    go_enter Tryd.func152, Tryd.ntmps152
    go_wp2_with (refine wp_copy rfl (.tmp 17) (.tmp 18) _ _ rfl .u64 77 Tryd.underlying57 size_word bz oz n cz rfl (.slice (some ⟨bx, ox, none⟩) n cx) xs rfl hsl L HZ.out hfit ?_; intro w1 row1 f1)
    go_ret
    refine ⟨xs, 0, rfl, ?_, f1, HN.out, HD.out, by omega, by omega, by simp⟩
    rwa [List.take_of_length_le (by rw [HN.out]; omega)] at row1
  · have h63 : bits .and .u64 (s : Int) 63 = (s : Int) := by
      rw [show (63 : Int) = ((2 ^ 6 - 1 : Nat) : Int) from rfl, u64_and_nat _ _ (by omega) (by omega), Nat.and_two_pow_sub_one_eq_mod, Nat.mod_eq_of_lt (by omega)]
    have h63' : bits .and .u64 (64 - (s : Int)) 63 = 64 - (s : Int) := by
      have e : (64 - (s : Int)) = ((64 - s : Nat) : Int) := by omega
      rw [e, show (63 : Int) = ((2 ^ 6 - 1 : Nat) : Int) from rfl, u64_and_nat _ _ (by omega) (by omega), Nat.and_two_pow_sub_one_eq_mod, Nat.mod_eq_of_lt (by omega)]
    have hse : ((s : Int) == 0) = false := by simp; omega
    have hm1 : min s 64 = s := by omega
    have hm2 : min (64 - s) 64 = 64 - s := by omega
    rcases Nat.eq_zero_or_pos n with h0 | h0
    · subst h0
      clear hx hz hn hal
      go_enter Tryd.func152, Tryd.ntmps152
      go_wp2_with fail
      go_ret
      refine ⟨[], 0, rfl, by rw [spl_nil]; exact HZ.out, Fr.refl _ _, rfl, DG.nil _, by omega, by omega, ?_⟩
      rw [List.eq_nil_of_length_eq_zero HN.out]; simp [val_nil]
    · obtain ⟨m, hm⟩ : ∃ m, n = m + 1 := ⟨n - 1, by omega⟩
      subst hm
      have cm := hx 0 (by omega)
      simp only [Nat.add_zero] at cm
      obtain ⟨xm, hxm⟩ : ∃ xm, xm = xs.getD 0 0 := ⟨_, rfl⟩
      rw [← hxm] at cm
      have hxd := HD.out.getD (by omega) 0
      rw [← hxm] at hxd
      obtain ⟨hx0, hx1⟩ := hxd
      have HXM := Lib.hid hxm
      have hnz : ((m : Int) + 1 == 0) = false := by simp; omega
      clear hx hz hn hal hxm
      go_enter Tryd.func152, Tryd.ntmps152
      go_wp2_with fail
      obtain ⟨c0, hc0⟩ : ∃ c0, c0 = IntKind.u64.wrap (xm * 2 ^ (64 - s)) := ⟨_, rfl⟩
      rw [← hc0]
      have HC0 := Lib.hid hc0
      clear hc0 cm
      go_loopg [8] (m + 1) (RshRel 77 w bz oz m s L xs c0)
      case atStart =>
        refine ⟨0, [], Nat.zero_le _, rfl, rfl, by rw [spl_nil]; exact HZ.out, Fr.refl _ _, rfl, DG.nil _, ?_⟩
        have e2 := shr_split xm s hs
        rw [val_take_succ', List.take_zero, val_nil, ← HXM.out, HC0.out, IntKind.wrap_u64]
        simp only [val_nil, Int.pow_zero]
        grind
      case round =>
        obtain ⟨i, pre, hi, rfl, rfl, hrow, hf, hl, hdg, hv⟩ := hrel
        have HV := Lib.hid hv
        have HL := Lib.hid hl
        have hfz := hrow.frozen (oz + i)
        have hlen : (spl L oz pre).length = L.length := spl_len (by omega)
        have cz := hrow.cell (i := oz + i) (by omega)
        obtain ⟨old, hold⟩ : ∃ old, old = (spl L oz pre).getD (oz + i) 0 := ⟨_, rfl⟩
        rw [← hold] at cz
        have cx1 := HX.out.spl HZ.out hrow hf (by omega) (j := i) (by rw [HN.out]; omega) (by rcases HAL.out with h | h | h; exact .inl h; exact .inr (.inr (by omega)); exact .inr (.inl (by omega)))
        obtain ⟨x1, hx1⟩ : ∃ x1, x1 = xs.getD i 0 := ⟨_, rfl⟩
        rw [← hx1] at cx1
        have hxd1 := HD.out.getD (by omega) i
        rw [← hx1] at hxd1
        obtain ⟨hx10, hx11⟩ := hxd1
        have HX1 := Lib.hid hx1
        clear hold hlen hv hl hx1
        rcases (by omega : i = m ∨ i < m) with h00 | h00
        · subst h00
          go_wp2_with fail
          go_ret
          refine ⟨pre ++ [x1 / 2 ^ s], c0, rfl, ?_, hf.set (.inl (by simp)) _, by rw [List.length_append, HL.out]; simp, ?_, ?_, ?_, ?_⟩
          · have := hrow.set (oz + i) (x1 / 2 ^ s)
            have e : oz + i = oz + pre.length := by rw [HL.out]
            rwa [e, spl_set_end (by rw [HL.out]; omega), ← e] at this
          · exact hdg.append (DG.cons (Int.ediv_nonneg hx10 (Int.le_of_lt (pow_pos_ (by omega) _))) (Int.lt_of_le_of_lt (Int.ediv_le_self _ hx10) hx11) (DG.nil _))
          · rw [HC0.out, IntKind.wrap_u64]; exact Int.emod_nonneg _ (by omega)
          · rw [HC0.out, IntKind.wrap_u64]; exact Int.emod_lt_of_pos _ (by omega)
          · have h := HV.out
            rw [List.take_of_length_le (by rw [HN.out]; omega), ← HX1.out] at h
            rw [h, val_snoc, HL.out]
            grind
        · have cx2 := HX.out.spl HZ.out hrow hf (by have := HL.out; omega) (j := i + 1) (by rw [HN.out]; omega) (by rcases HAL.out with h | h | h; exact .inl h; exact .inr (.inr (by have := HL.out; omega)); exact .inr (.inl (by omega)))
          obtain ⟨x2, hx2⟩ : ∃ x2, x2 = xs.getD (i + 1) 0 := ⟨_, rfl⟩
          rw [← hx2] at cx2
          have hxd2 := HD.out.getD (by omega) (i + 1)
          rw [← hx2] at hxd2
          obtain ⟨hx20, hx21⟩ := hxd2
          have HX2 := Lib.hid hx2
          have hor := or_shift_r x2 x1 s (by omega) hs hx20 hx10 hx11
          have HOR := Lib.hid hor
          have hw1 : IntKind.i64.wrap ((i : Int) + 1) = (i : Int) + 1 := IntWalk.i64_in _ (by omega)
          have hw2 : IntKind.i64.wrap (i : Int) = (i : Int) := IntWalk.i64_in _ (by omega)
          have hj1 : (i : Int) + 1 < (m : Int) + 1 := by omega
          have hj2 : (i : Int) < (m : Int) + 1 := by omega
          have hj3 : 0 ≤ (i : Int) + 1 := by omega
          have htn : ((i : Int) + 1).toNat = i + 1 := by omega
          clear hx2 hor
          go_wp2_with fail
          go_region
          go_wp2_with fail
          go_roundg (m + 1 - (i + 1))
          case measure => omega
          case rel =>
            obtain ⟨z, hz⟩ : ∃ z, z = bits BinOp.or IntKind.u64 (x1 / 2 ^ s) (IntKind.u64.wrap (x2 * 2 ^ (64 - s))) := ⟨_, rfl⟩
            have hz2 : z = x1 / 2 ^ s + x2 * 2 ^ (64 - s) % 18446744073709551616 := by rw [hz]; exact HOR.out
            have hzb : 0 ≤ z ∧ z < 18446744073709551616 := by
              rw [hz]
              have h1 := bits_lo_u64 .or (x1 / 2 ^ s) (IntKind.u64.wrap (x2 * 2 ^ (64 - s)))
              have h2 := bits_hi_u64 .or (x1 / 2 ^ s) (IntKind.u64.wrap (x2 * 2 ^ (64 - s)))
              omega
            rw [← hz]
            refine ⟨i + 1, pre ++ [z], by omega, rfl, by go_num, ?_, (hf.set (.inl (by simp)) _).drewN 1, by rw [List.length_append, HL.out]; simp, hdg.append (DG.cons hzb.1 hzb.2 (DG.nil _)), ?_⟩
            · have := hrow.set (oz + i) z
              have e : oz + i = oz + pre.length := by rw [HL.out]
              rw [e, spl_set_end (by rw [HL.out]; omega), ← e] at this
              exact this.drewN 1
            · have h := HV.out
              rw [← HX1.out] at h
              rw [val_take_succ', Int.add_mul, h, val_snoc, HL.out, ← HX2.out, hz2, Int.pow_succ]
              have hb := shr_split x2 s hs
              grind
end Go.Proofs.YtknokndpeneogaaDoor
