/-
  Division of a number by a word: divWVW, nat.divW, nat.modW, and the law FnDivW. Conditions: what is read can be read; the divisor is not 0.
-/
import Derived.Test.YtjapebgihnahjaaDivWL
import Derived.Test.YtjapebgihnahjaaTruncL
import Derived.Test.YtjapebgihnahjaaSetN
import Derived.Test.YtjapebgihnahjaaMulAddW
set_option linter.unusedSimpArgs false
set_option linter.unusedVariables false
namespace Go.Big
theorem divw_step {x r y q r' V : Int} {qs xs : List Int} {j : Nat} (hj : j < xs.length) (hx : x = xs.getD j 0) (hq : q = (r * 18446744073709551616 + x) / y) (hr : r' = (r * 18446744073709551616 + x) % y)
    (h : val 18446744073709551616 qs * y + r = val 18446744073709551616 (xs.drop (j + 1))) : val 18446744073709551616 (q :: qs) * y + r' = val 18446744073709551616 (xs.drop j) := by
  rw [List.drop_eq_getElem_cons hj, val_cons, val_cons, ← h, ← getD_in hj, ← hx]
  have e := Int.emod_add_mul_ediv (r * 18446744073709551616 + x) y
  rw [← hq, ← hr] at e
  grind
theorem divw_fin {Q r y X : Int} (hy : 0 < y) (h : Q * y + r = X) (h0 : 0 ≤ r) (h1 : r < y) : Q = X / y ∧ r = X % y := by
  subst h
  constructor
  · rw [Int.add_comm, Int.add_mul_ediv_right _ _ (by omega), Int.ediv_eq_zero_of_lt h0 h1, Int.zero_add]
  · rw [Int.add_comm, Int.add_mul_emod_self_right, Int.emod_eq_of_lt h0 h1]
end Go.Big
namespace Go.Proofs.Ytjapebgihnahjaa
open Go.Big Go.RowKit
def DvRel (xs : List Int) (y : Int) (z c : Nat) (w1 : World) (g : Nat) (rv iv : Value) (wr : World) : Prop :=
  ∃ (i : Nat) (qs : List Int) (r : Int), i ≤ xs.length ∧ i = g ∧ iv = .int .i64 ((i : Int) - 1) ∧ rv = .int .u64 r ∧ 0 ≤ r ∧ r < y ∧ Row .u64 87 wr z (spl (List.replicate c 0) i qs) ∧ Fr [z] w1 wr ∧ i + qs.length = xs.length ∧ DG 18446744073709551616 qs ∧
    val 18446744073709551616 qs * y + r = val 18446744073709551616 (xs.drop i)
set_option maxRecDepth 100000 in
set_option maxHeartbeats 1000000 in
theorem divWVW_any (z c cz : Nat) (v : Value) (xs : List Int) (N : Nat) (y : Int) (w0 w : World) (hx : Sl .u64 w0 v xs) (hd : DG 18446744073709551616 xs) (hN : N = xs.length) (hN0 : 0 < N) (hl : N ≤ 1000000) (f : Fr [] w0 w) (hz : w0.heap.size ≤ z)
    (row : Row .u64 87 w z (List.replicate c 0)) (hNc : N ≤ c) (hNcz : N ≤ cz) (hcz : cz ≤ 1000000000) (hy0 : 0 < y) (hyW : y < 18446744073709551616) :
    Calls Try.prog 136 #[.slice (some ⟨z, 0, none⟩) N cz, .int .u64 0, v, .int .u64 y] w fun e w' => ∃ qs, e = .returned (.int .u64 (val 18446744073709551616 xs % y)) ∧ Row .u64 87 w' z (spl (List.replicate c 0) 0 qs) ∧ qs.length = N ∧ DG 18446744073709551616 qs ∧ val 18446744073709551616 qs = val 18446744073709551616 xs / y ∧ Fr [z] w w' := by
  obtain ⟨A, cap, rfl, hlc, hm, hsrc⟩ := hx
  unfold maxLen at hm
  rw [← hN] at hlc hsrc ⊢
  obtain ⟨bx, ox, rfl, hbx, hs⟩ := hsrc hN0
  have HN := Lib.hid hN
  have HD := Lib.hid hd
  have hsw := hs.fr f (by simp)
  have HS := Lib.hid hsw
  have hbz : ¬ bx = z := by omega
  have HROW := Lib.hid row
  by_cases h1 : N = 1
  · obtain ⟨x, hx⟩ : ∃ x, x = xs.getD 0 0 := ⟨_, rfl⟩
    have cx := HS.out 0 (by rw [← HN.out]; omega)
    rw [Nat.add_zero] at cx
    obtain ⟨hx0, hx1⟩ := HD.out.getD (by omega) 0
    rw [← hx] at cx hx0 hx1
    have hxe : val 18446744073709551616 xs = x := by
      obtain ⟨a, rfl⟩ := List.length_eq_one_iff.1 (show xs.length = 1 by omega)
      rw [hx]; simp [val_cons, val_nil]
    rw [hxe]
    have hfz := row.frozen 0
    have cz0 := row.cell (i := 0) (by simp; omega)
    obtain ⟨old, hold⟩ : ∃ old, old = (List.replicate c (0 : Int)).getD 0 0 := ⟨_, rfl⟩
    rw [← hold] at cz0
    have C := Lib.hid (fun W => bitsDiv0_any x y W hx0 hx1 hy0 hyW)
    have hq0 : 0 ≤ x / y := Int.ediv_nonneg hx0 (by omega)
    have hq1 : x / y < 18446744073709551616 := Int.lt_of_le_of_lt (Int.ediv_le_self _ hx0) hx1
    obtain ⟨q, hq⟩ : ∃ q, q = x / y := ⟨_, rfl⟩
    obtain ⟨r, hr⟩ : ∃ r, r = x % y := ⟨_, rfl⟩
    rw [← hq] at hq0 hq1
    simp only [← hq, ← hr] at C ⊢
    have cz0 := fun (W : World) (h : Fr [] w W) => h.cell_some cz0 (by simp)
    have hfz := fun (W : World) (h : Row .u64 87 W z (List.replicate c 0)) => h.frozen 0
    have CZ := Lib.hid cz0
    have HFZ := Lib.hid hfz
    clear hx hxe hold hq hr hs hd hN row hsw hsrc cz0 hfz
    subst h1
    go_enter Try.func136, Try.ntmps136
    go_wp2_with (go_at_call 123; go_loud (refine (C.out _).mono ?_); rintro e w1 ⟨rfl, f1⟩; have cz0 := CZ.out _ f1; have row1 := HROW.out.fr f1 (by simp); have hfz := HFZ.out _ row1; have HR1 := Lib.hid row1; clear row1)
    go_ret
    refine ⟨[q], rfl, ?_, rfl, DG.cons hq0 hq1 (DG.nil _), by simp [val_cons, val_nil], (f1.mono (by simp)).set (.inl (by simp)) _⟩
    have h := HR1.out.set 0 q
    have hsp := spl_set_end (L := List.replicate c (0 : Int)) (o := 0) (cs := []) (by simp; omega) q
    rw [spl_nil] at hsp
    simpa using (show Row .u64 87 _ z (spl (List.replicate c 0) 0 ([] ++ [q])) by rw [← hsp]; exact h)
  · have hL := isLen_word y (by omega) hyW
    obtain ⟨L, hLe⟩ : ∃ L, L = Lib.bitLen y.toNat := ⟨_, rfl⟩
    rw [← hLe] at hL
    have C1 := Lib.hid (fun W => recip_any y L W hy0 hyW hL)
    have C2 := Lib.hid (fun x1 x0 W h10 h1y h00 h0W => divWW_any x1 x0 y L W h10 h1y h00 h0W hyW hL)
    obtain ⟨rc, hrc⟩ : ∃ rc, rc = rcp (y * 2 ^ (64 - L)) := ⟨_, rfl⟩
    simp only [← hrc] at C1 C2
    obtain ⟨X, hX⟩ : ∃ X, X = val 18446744073709551616 xs := ⟨_, rfl⟩
    have HX := Lib.hid hX
    rw [← hX]
    have h1b : ((N : Int) == 1) = false := by rw [beq_eq_false_iff_ne]; omega
    clear hL hLe hrc hX hs hd hN row hsw hsrc
    go_enter Try.func136, Try.ntmps136
    go_wp2_with (go_at_call 101; refine (C1.out _).mono ?_; rintro e w1 ⟨rfl, f1⟩)
    go_loopg [8, 12] N (DvRel xs y z c w1)
    case atStart => exact ⟨N, [], 0, by rw [← HN.out]; omega, rfl, rfl, rfl, by omega, by omega, by rw [spl_nil]; exact HROW.out.fr f1 (by simp), Fr.refl _ _, by rw [HN.out]; rfl, DG.nil _, by simp [val_nil, HN.out]⟩
    case round =>
      obtain ⟨i, qs, r, hi, rfl, rfl, rfl, hr0, hr1, hrow, hf, hql, hqd, hqv⟩ := hrel
      rw [← HN.out] at hi hql
      have HR := Lib.hid hrow
      have HF := Lib.hid hf
      have HQL := Lib.hid hql
      have HQD := Lib.hid hqd
      have HQV := Lib.hid hqv
      clear hrow hf hql hqd hqv
      by_cases h2 : 0 < i
      · obtain ⟨j, hj⟩ : ∃ j, i = j + 1 := ⟨i - 1, by omega⟩
        have hij : (i : Int) - 1 = (j : Int) := by omega
        have hjN : (j : Int) < (N : Int) := by omega
        have hcapj : (j : Int) < (cap : Int) := by omega
        obtain ⟨x, hx⟩ : ∃ x, x = xs.getD j 0 := ⟨_, rfl⟩
        have cx := ((HS.out.fr f1 (by simp)).fr HF.out (by simpa using hbz)) j (by rw [← HN.out]; omega)
        obtain ⟨hx0, hx1⟩ := HD.out.getD (by omega) j
        rw [← hx] at cx hx0 hx1
        have hfz := HR.out.frozen j
        have cz0 := HR.out.cell (i := j) (by rw [spl_len (by simp; have := HQL.out; omega)]; simp; omega)
        obtain ⟨old, hold⟩ : ∃ old, old = (spl (List.replicate c (0 : Int)) i qs).getD j 0 := ⟨_, rfl⟩
        rw [← hold] at cz0
        have CD := Lib.hid (C2.out r x wr hr0 hr1 hx0 hx1)
        have hq0 : 0 ≤ (r * 18446744073709551616 + x) / y := Int.ediv_nonneg (by omega) (by omega)
        have hq1 : (r * 18446744073709551616 + x) / y < 18446744073709551616 := Int.ediv_lt_of_lt_mul hy0 (by rw [Int.mul_comm]; omega)
        have hr0' : 0 ≤ (r * 18446744073709551616 + x) % y := Int.emod_nonneg _ (by omega)
        have hr1' : (r * 18446744073709551616 + x) % y < y := Int.emod_lt_of_pos _ hy0
        have hst := divw_step (x := x) (r := r) (y := y) (qs := qs) (xs := xs) (j := j) (V := 0) (by rw [← HN.out]; omega) hx rfl rfl (by rw [← hj]; exact HQV.out)
        obtain ⟨q, hq⟩ : ∃ q, q = (r * 18446744073709551616 + x) / y := ⟨_, rfl⟩
        obtain ⟨r', hr'⟩ : ∃ r', r' = (r * 18446744073709551616 + x) % y := ⟨_, rfl⟩
        rw [← hq] at hq0 hq1 hst
        rw [← hr'] at hr0' hr1' hst
        rw [← hq, ← hr'] at CD
        have HST := Lib.hid hst
        have HJ := Lib.hid hj
        clear hold hx hq hr' hst hj
        go_wp2_with (go_at_call 113; refine (Hid.out CD).mono ?_; rintro e w2 ⟨rfl, rfl⟩)
        go_roundg j
        case measure => have := HJ.out; omega
        case rel =>
          refine ⟨j, q :: qs, r', by rw [← HN.out]; omega, rfl, by first | rfl | go_num, rfl, hr0', hr1', ?_, HF.out.set (.inl (by simp)) _, by rw [← HN.out, List.length_cons]; have := HQL.out; have := HJ.out; omega, DG.cons hq0 hq1 HQD.out, HST.out⟩
          have h := HR.out.set j q
          rw [HJ.out, spl_set_top (by simp; omega)] at h
          exact h
      · obtain rfl : i = 0 := by omega
        have hv := HQV.out
        rw [List.drop_zero, ← HX.out] at hv
        have hfin := divw_fin hy0 hv hr0 hr1
        have HFIN := Lib.hid hfin
        clear hv hfin
        go_wp2_with fail
        go_ret
        exact ⟨qs, by rw [HFIN.out.2]; rfl, HR.out, by have := HQL.out; omega, HQD.out, HFIN.out.1, (f1.mono (S' := [z]) (by simp)).trans HF.out (fun x hx _ => hx)⟩
set_option maxRecDepth 100000 in
set_option maxHeartbeats 1000000 in
theorem divW_any (v : Value) (X y : Int) (w : World) (hx : SW w v X) (hX : X < BIG) (hy0 : 0 < y) (hyW : y < 18446744073709551616) :
    Calls Try.prog 114 #[.slice none 0 0, v, .int .u64 y] w fun e w' => ∃ v', e = .returned (.tuple #[v', .int .u64 (X % y)]) ∧ SW w' v' (X / y) ∧ Fr [] w w' := by
  have hy2 : (y == 0) = false := by rw [beq_eq_false_iff_ne]; omega
  by_cases h1 : y = 1
  · subst h1
    rw [Int.emod_one, Int.ediv_one]
    have C := Lib.hid (set_any v X w hx hX)
    obtain ⟨xs, ⟨A, cap, rfl, _, _, _⟩, _, _, _⟩ := hx
    go_enter Try.func114, Try.ntmps114
    go_wp2_with (go_at_call 119; go_loud (refine (Hid.out C).mono ?_); rintro e w1 ⟨v1, rfl, sw1, f1⟩)
    go_ret2
    exact ⟨_, rfl, sw1, f1⟩
  have hy3 : (y == 1) = false := by rw [beq_eq_false_iff_ne]; omega
  obtain ⟨xs, sl, dx, zx, rfl⟩ := hx
  have hl := len_BIG64 dx zx hX
  obtain ⟨N, hN⟩ : ∃ N, N = xs.length := ⟨_, rfl⟩
  by_cases h0 : N = 0
  · have hxs : xs = [] := List.eq_nil_of_length_eq_zero (by omega)
    subst hxs
    obtain ⟨A, cap, rfl, hlc, hm, _⟩ := sl
    simp only [List.length_nil, val_nil, Int.zero_emod, Int.zero_ediv]
    clear hN h0 hl hX dx zx
    go_enter Try.func114, Try.ntmps114
    go_wp2_with fail
    go_ret2
    exact ⟨_, rfl, SW.zero _, Fr.refl _ _⟩
  have HN := Lib.hid hN
  have HD := Lib.hid dx
  have HX := Lib.hid sl
  have C := Lib.hid (fun z c cz W (f : Fr [] w W) h1 h2 h3 h4 h5 => divWVW_any z c cz v xs N y w W sl dx hN (by omega) (by omega) f h1 h2 h3 h4 h5 hy0 hyW)
  have HM := Lib.hid (fun W => make_any N W (by omega) (by omega))
  obtain ⟨A, cap, rfl, hlc, hm, _⟩ := sl
  rw [← hN] at hlc hl C ⊢
  have hN0 : ((N : Int) == 0) = false := by rw [beq_eq_false_iff_ne]; omega
  obtain ⟨X, hXe⟩ : ∃ X, X = val 18446744073709551616 xs := ⟨_, rfl⟩
  obtain ⟨Q, hQ⟩ : ∃ Q, Q = X / y := ⟨_, rfl⟩
  obtain ⟨R, hR⟩ : ∃ R, R = X % y := ⟨_, rfl⟩
  simp only [← hXe, ← hQ, ← hR] at C hX ⊢
  clear hN dx zx hXe hQ hR HX
  go_enter Try.func114, Try.ntmps114
  go_wp2_with (first
    | (go_at_call 120; refine (HM.out _).mono ?_; rintro e w1 ⟨z, c, rfl, hc1, hc2, row, hz, f⟩; have HROW := Lib.hid row; clear row)
    | (go_at_call 136; refine (C.out z c c _ f hz HROW.out (by omega) (by omega) (by omega)).mono ?_; rintro e w2 ⟨qs, rfl, row2, hql, hqd, hqv, f2⟩; have HR2 := Lib.hid row2; have HQL := Lib.hid hql; have HQD := Lib.hid hqd; have HQV := Lib.hid hqv; clear row2 hql hqd hqv)
    | (go_at_call 118; refine (bnorm_sl _ qs _ ((src_spl HR2.out (by rw [HQL.out]; simp; omega)).sl HQL.out hc1 (by unfold maxLen; omega)) HQD.out).mono ?_; rw [HQV.out]; rintro e w4 ⟨⟨v4, rfl, sw4⟩, rfl⟩))
  go_ret2
  exact ⟨_, rfl, sw4, fr_new'' f f2 hz⟩
end Go.Proofs.Ytjapebgihnahjaa
