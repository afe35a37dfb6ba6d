/-
  The root of a natural number by Newton's steps, plain. Conditions: the number is not below 0.
  What the root calls: natOne, setUint64 of 1, lsh into a new number, rsh in place. Conditions: what is read can be read, the receiver can be written.
  The root's loop: what holds at its head, and its steps. Conditions: the number lies apart from the stack; the thresholds lie in their variables.
  The root, walked: nat.sqrt, ZZSqrt, impl.Sqrt. Conditions: the number can be read; the thresholds lie in their variables.
-/
import Derived.Test.YtknokndpeneogaaDoorgBase
import Derived.Test.YtknokndpeneogaaDoorgDv
import Derived.Test.YtknokndpeneogaaDoorgShN
import Derived.Test.YtknokndpeneogaaDoorBlen
import Derived.Deep.DeepCutAuto
set_option linter.unusedSimpArgs false
set_option linter.unusedVariables false
section
namespace Go.Big
/-- s is the root of x -/
def IsRoot (x s : Int) : Prop := 0 ≤ s ∧ s * s ≤ x ∧ x < (s + 1) * (s + 1)
theorem root_ex (n : Nat) : ∃ s : Int, IsRoot (n : Int) s := by
  induction n with
  | zero => exact ⟨0, by unfold IsRoot; omega⟩
  | succ n ih =>
    obtain ⟨s, h0, h1, h2⟩ := ih
    by_cases h : ((n + 1 : Nat) : Int) < (s + 1) * (s + 1)
    · exact ⟨s, h0, by omega, h⟩
    · refine ⟨s + 1, by omega, by omega, ?_⟩
      have e : (s + 1 + 1) * (s + 1 + 1) = (s + 1) * (s + 1) + (2 * s + 3) := by grind
      omega
theorem root_of {x : Int} (h : 0 ≤ x) : ∃ s, IsRoot x s := by
  obtain ⟨s, hs⟩ := root_ex x.toNat
  rw [Int.toNat_of_nonneg h] at hs
  exact ⟨s, hs⟩
/-- a step from above -/
theorem root_step {x s z : Int} (h : IsRoot x s) (hz : s < z) : s ≤ (x / z + z) / 2 ∧ 2 * ((x / z + z) / 2 - s) ≤ z - s ∧ (x / z + z) / 2 < z := by
  obtain ⟨h0, h1, h2⟩ := h
  have hz0 : 0 < z := by omega
  have k1 : x / z ≤ s := by
    have : x < (s + 1) * z := Int.lt_of_lt_of_le h2 (Int.mul_le_mul_of_nonneg_left (by omega) (by omega))
    have := Int.ediv_lt_of_lt_mul hz0 this
    omega
  have k2 : 2 * s - z ≤ x / z := by
    refine Int.le_ediv_of_mul_le hz0 ?_
    have e : (z - s) * (z - s) = s * s - (2 * s - z) * z := by grind
    have : 0 ≤ (z - s) * (z - s) := Int.mul_nonneg (by omega) (by omega)
    omega
  omega
/-- at the root the step goes no further down -/
theorem root_stop {x s : Int} (h : IsRoot x s) (hs : 0 < s) : s ≤ (x / s + s) / 2 := by
  have k2 : s ≤ x / s := Int.le_ediv_of_mul_le hs h.2.1
  omega
/-- the start lies above the root -/
theorem root_start {x s : Int} {L : Nat} (h : IsRoot x s) (hL : x < 2 ^ L) : s < 2 ^ ((L + 1) / 2) := by
  obtain ⟨h0, h1, h2⟩ := h
  rcases Int.lt_or_le s (2 ^ ((L + 1) / 2)) with h | h
  · exact h
  · exfalso
    have hp := pow_pos_ (B := 2) (by omega) ((L + 1) / 2)
    have k1 : (2 : Int) ^ ((L + 1) / 2) * 2 ^ ((L + 1) / 2) ≤ s * s := Int.mul_le_mul h h (by omega) h0
    rw [← Int.pow_add] at k1
    have k2 := pow_le_pow_ (B := 2) (by omega) (show L ≤ (L + 1) / 2 + (L + 1) / 2 by omega)
    omega
/-- how long it goes on -/
theorem root_count {s z z' : Int} {K n : Nat} (h : (z - s) * 2 ^ n < 2 ^ K) (hz : s < z) (hs : 2 * (z' - s) ≤ z - s) : (z' - s) * 2 ^ (n + 1) < 2 ^ K ∧ n < K := by
  constructor
  · rw [Int.pow_succ]
    have hp := pow_pos_ (B := 2) (by omega) n
    have : (z' - s) * 2 * 2 ^ n ≤ (z - s) * 2 ^ n := Int.mul_le_mul_of_nonneg_right (by omega) (by omega)
    have e : (z' - s) * (2 ^ n * 2) = (z' - s) * 2 * 2 ^ n := by grind
    omega
  · rcases Nat.lt_or_ge n K with h1 | h1
    · exact h1
    · exfalso
      have hp := pow_pos_ (B := 2) (by omega) n
      have k := pow_le_pow_ (B := 2) (by omega) h1
      have : 1 * 2 ^ n ≤ (z - s) * 2 ^ n := Int.mul_le_mul_of_nonneg_right (by omega) (by omega)
      omega
theorem root_le {x s : Int} (h : IsRoot x s) (hx : 2 ≤ x) : 1 ≤ s := by
  obtain ⟨h0, h1, h2⟩ := h
  rcases Int.lt_or_le s 1 with h | h
  · obtain rfl : s = 0 := by omega
    omega
  · exact h
end Go.Big
end
section
namespace Go.Proofs.YtknokndpeneogaaDoor
open Go.Big Go.RowKit
theorem make1 (w : World) : Calls Tryd.prog 97 #[.slice none 0 0, .int .i64 1] w fun e w' => ∃ g, e = .returned (.slice (some ⟨g, 0, none⟩) 1 1) ∧ Row .u64 77 w' g [0] ∧ w.heap.size ≤ g ∧ Fr [] w w' := by
  go_enter Tryd.func97, Tryd.ntmps97
  go_wp2_with (at_make; refine wp_mkc rfl (.const (.int .i64 1)) (.const (.int .i64 1)) _ rfl .u64 77 8 ty_big (by omega) 1 1 rfl rfl (by omega) (by omega) ?_; intro g w1 hg row f)
  go_ret
  exact ⟨g, rfl, row, hg, f⟩
theorem make_new (A : Option Addr) (l c n : Nat) (w : World) (hl : l ≤ c) (hc : c < n) (hn1 : 1 < n) (hn : n ≤ 1000000000) :
    Calls Tryd.prog 97 #[.slice A l c, .int .i64 (n : Int)] w fun e w' => ∃ b c, e = .returned (.slice (some ⟨b, 0, none⟩) n c) ∧ n ≤ c ∧ c ≤ n + 4 ∧ Row .u64 77 w' b (List.replicate c 0) ∧ w.heap.size ≤ b ∧ Fr [] w w' := by
  have hw : IntKind.i64.wrap ((n : Int) + 4) = ((n + 4 : Nat) : Int) := by rw [IntKind.wrap_i64]; omega
  have h1' : ((n : Int) == 1) = false := by rw [beq_eq_false_iff_ne]; omega
  go_enter Tryd.func97, Tryd.ntmps97
  go_wp2_with (at_make; refine wp_mkc rfl (.tmp 15) (.tmp 17) _ rfl .u64 77 8 ty_big (by omega) n (n + 4) rfl (by first | rfl | (show Value.int IntKind.i64 _ = _; congr 1)) (by omega) (by omega) ?_; intro g w1 hg row f)
  go_ret
  exact ⟨g, n + 4, rfl, by omega, by omega, row, hg, f⟩
theorem setOne (w : World) : Calls Tryd.prog 114 #[.slice none 0 0, .int .u64 1] w fun e w' => ∃ g, e = .returned (.slice (some ⟨g, 0, none⟩) 1 1) ∧ Row .u64 77 w' g [1] ∧ w.heap.size ≤ g ∧ Fr [] w w' := by
  have C : ∀ W, Calls Tryd.prog 111 #[.slice none 0 0, .int .u64 1] W fun e w' => ∃ g, e = .returned (.slice (some ⟨g, 0, none⟩) 1 1) ∧ Row .u64 77 w' g [1] ∧ W.heap.size ≤ g ∧ Fr [] W w' := by
    intro W
    go_enter Tryd.func111, Tryd.ntmps111
    go_wp2_with (go_at_call 97; refine (make1 _).mono ?_; rintro e w1 ⟨g, rfl, row, hg, f⟩; have hfz := row.frozen 0; have cz : w1.cell? ⟨g, 0, none⟩ = some (.int .u64 0) := row.cell (i := 0) (by simp))
    go_ret
    exact ⟨g, rfl, row.set 0 1, hg, fr_new'' f (by apply Fr.set _ (.inl (by simp)); exact Fr.refl _ _) hg⟩
  have HC := Lib.hid C
  clear C
  go_enter Tryd.func114, Tryd.ntmps114
  go_wp2_with (go_at_call 111; refine (HC.out _).mono ?_; rintro e w1 ⟨g, rfl, row, hg, f⟩; have HR := Lib.hid row; clear row)
  go_ret
  exact ⟨g, rfl, HR.out, hg, f⟩
theorem natOne_any (w : World) : Calls Tryd.prog 113 #[] w fun e w' => ∃ v, e = .returned v ∧ SW w' v 1 ∧ Fr [] w w' := by
  go_enter Tryd.func113, Tryd.ntmps113
  go_wp2_with fail
  go_ret
  exact ⟨_, rfl, ⟨[1], row1 _ _ _ _, DG.cons (by omega) (by omega) (DG.nil _), .inr (by simp), by simp [val_cons, val_nil]⟩, (Fr.refl _ _).alloc _⟩
/-- a number in a new block -/
def RetNm (V : Int) (w : World) (e : Ending) (w' : World) : Prop :=
  ∃ z c zs, e = .returned (.slice (some ⟨z, 0, none⟩) zs.length c) ∧ Nm w' (some ⟨z, 0, none⟩) z 0 c zs ∧ DG 18446744073709551616 zs ∧ NZ zs ∧ val 18446744073709551616 zs = V ∧ w.heap.size ≤ z ∧ c ≤ 2000000 ∧ Fr [] w w'
set_option maxRecDepth 100000 in
set_option maxHeartbeats 1000000 in
theorem lshN_any (A : Option Addr) (l c0 : Nat) (b off cap : Nat) (xs : List Int) (s : Nat) (w : World) (hl0 : l ≤ c0) (hs : Go.Big.Src .u64 w b off xs) (hb : b < w.heap.size) (dx : DG 18446744073709551616 xs) (hp : 0 < xs.length) (hl : xs.length ≤ 100000) (hlc : xs.length ≤ cap) (hm : cap ≤ maxLen) (hs0 : 0 < s) (hs9 : s ≤ 1000000) (hc0 : c0 < xs.length + s / 64 + 1) :
    Calls Tryd.prog 83 #[.slice A l c0, .slice (some ⟨b, off, none⟩) xs.length cap, .int .u64 (s : Int)] w (RetNm (val 18446744073709551616 xs * 2 ^ s) w) := by
  unfold maxLen at hm
  have DX := Lib.hid dx
  have hse : ((s : Int) == 0) = false := by rw [beq_eq_false_iff_ne]; omega
  have hle : ((xs.length : Int) == 0) = false := by rw [beq_eq_false_iff_ne]; omega
  obtain ⟨q, hq⟩ : ∃ q, q = s / 64 := ⟨_, rfl⟩
  obtain ⟨r, hr⟩ : ∃ r, r = s % 64 := ⟨_, rfl⟩
  have hkq : (s : Int) / 64 = (q : Int) := by omega
  have hkr : (s : Int) % 64 = (r : Int) := by omega
  have hr64 : r < 64 := by omega
  have hq9 : q ≤ 20000 := by omega
  have hn2 : s = 64 * q + r := by omega
  have HS2 := Lib.hid hn2
  have HSRC := Lib.hid hs
  have SL : Hid (Sl .u64 w (.slice (some ⟨b, off, none⟩) xs.length cap) xs) := Lib.hid (hs.sl rfl hlc (by unfold maxLen; omega))
  have hwn : IntKind.i64.wrap ((xs.length : Int) + (q : Int)) = (xs.length : Int) + (q : Int) := by rw [IntKind.wrap_i64]; omega
  have hw1 : IntKind.i64.wrap ((xs.length : Int) + (q : Int) + 1) = ((xs.length + q + 1 : Nat) : Int) := by rw [IntKind.wrap_i64]; omega
  have hw2 : IntKind.i64.wrap ((xs.length : Int) + (q : Int) - (xs.length : Int)) = (q : Int) := by rw [IntKind.wrap_i64]; omega
  have hw3 : (xs.length : Int) + (q : Int) - (xs.length : Int) = (q : Int) := by omega
  have ein : ((xs.length : Int) + (q : Int)).toNat = xs.length + q := by omega
  have HM := Lib.hid (fun W => make_new A l c0 (xs.length + q + 1) W hl0 (by omega) (by omega) (by omega))
  have FIN : ∀ (z c : Nat) (zs : List Int) (k : Int) (W : World), Row .u64 77 W z (spl (List.replicate c 0) 0 (List.replicate q 0 ++ (zs ++ [k]))) → xs.length + q + 1 ≤ c → c ≤ xs.length + q + 5 → zs.length = xs.length → DG 18446744073709551616 zs → 0 ≤ k → k < 18446744073709551616 → val 18446744073709551616 zs + 18446744073709551616 ^ xs.length * k = 2 ^ r * val 18446744073709551616 xs →
      Calls Tryd.prog 88 #[.slice (some ⟨z, 0, none⟩) (xs.length + q + 1) c] W fun e w' => (∃ ys, e = .returned (.slice (some ⟨z, 0, none⟩) ys.length c) ∧ Nm W (some ⟨z, 0, none⟩) z 0 c ys ∧ DG 18446744073709551616 ys ∧ NZ ys ∧ val 18446744073709551616 ys = val 18446744073709551616 xs * 2 ^ s) ∧ W = w' := by
    intro z c zs k W row h1 h2 h3 h4 h5 h6 h7
    have hlen : (List.replicate q (0 : Int) ++ (zs ++ [k])).length = xs.length + q + 1 := by simp [h3]; omega
    have hv : val 18446744073709551616 (List.replicate q (0 : Int) ++ (zs ++ [k])) = val 18446744073709551616 xs * 2 ^ s := by
      have e : (2 : Int) ^ s = 18446744073709551616 ^ q * 2 ^ r := by rw [HS2.out, Int.pow_add, Int.pow_mul]; rfl
      rw [val_append, val_rep, List.length_replicate, val_snoc, h3, h7, e]
      grind
    rw [← hv]
    have hn := normN_any (some ⟨z, 0, none⟩) z 0 c (List.replicate q (0 : Int) ++ (zs ++ [k])) W (Nm.of_wr (Wr.of_spl row (by rw [hlen]; simp; omega)) (Rcv.of_row row (by rw [spl_len (by rw [hlen]; simp; omega)]; simp) (by unfold maxLen; omega)) (by rw [hlen]; exact h1)) ((DG.rep (by omega) _).append (h4.append (DG.cons h5 h6 (DG.nil _))))
    rw [hlen] at hn
    refine hn.mono ?_
    rintro e w' ⟨⟨ys, g1, g2, g3, g4, g5, _⟩, g6⟩
    exact ⟨⟨ys, g1, g2, g3, g4, g5⟩, g6⟩
  have HFIN := Lib.hid FIN
  by_cases hr0 : r = 0
  · subst hr0
    have hkr : (s : Int) % 64 = 0 := by omega
    clear dx hq hr hn2 hs FIN hc0
    go_enter Tryd.func83, Tryd.ntmps83
    go_wp2_with (first
      | (go_at_call 97; refine (HM.out _).mono ?_; rintro e w1 ⟨z, c, rfl, hc1, hc2, row, hz, f⟩; have HROW := Lib.hid row; clear row)
      | (refine wp_copy rfl (.tmp 46) (.tmp 47) _ _ rfl .u64 77 Tryd.underlying58 size_wordS z q xs.length (c - q) rfl _ xs rfl (SL.out.fr0 f) (List.replicate c 0) HROW.out (by simp; omega) ?_; intro w2 row2 f2; rw [List.take_length] at row2; have hfz := row2.frozen (xs.length + q); have cz := row2.cell (i := xs.length + q) (by rw [spl_len (by simp; omega)]; simp; omega); obtain ⟨old, hold⟩ : ∃ old, old = (spl (List.replicate c (0 : Int)) q xs).getD (xs.length + q) 0 := ⟨_, rfl⟩; rw [← hold] at cz; have HR2 := Lib.hid row2; clear hold row2)
      | (refine wp_clear rfl (.tmp 68) _ rfl .u64 77 8 ty_big (some ⟨z, 0, none⟩) z 0 q c rfl (fun _ => rfl) _ (row_top HR2.out rfl (by omega) 0) (by rw [spl_len (by simp; omega)]; simp; omega) ?_; intro w3 row3 f3; rw [spl_front (by simp; omega)] at row3; have HR3 := Lib.hid row3; clear row3)
      | (go_at_call 88; refine (HFIN.out z c xs 0 _ HR3.out hc1 (by omega) rfl DX.out (by omega) (by omega) (by simp)).mono ?_; rintro e w4 ⟨⟨ys, rfl, g1, g2, g3, g4⟩, rfl⟩; have G1 := Lib.hid g1; have G2 := Lib.hid g2; have G3 := Lib.hid g3; have G4 := Lib.hid g4; clear g1 g2 g3 g4))
    go_ret
    exact ⟨z, c, ys, rfl, G1.out, G2.out, G3.out, G4.out, hz, by omega, fr_new'' f (fr_same' (fr_same' f2 (by apply Fr.set _ (.inl (by simp)); exact Fr.refl _ _)) f3) hz⟩
  · have hre : ((r : Int) == 0) = false := by rw [beq_eq_false_iff_ne]; omega
    clear dx hq hr hn2 hs FIN hc0
    go_enter Tryd.func83, Tryd.ntmps83
    go_wp2_with (first
      | (go_at_call 97; refine (HM.out _).mono ?_; rintro e w1 ⟨z, c, rfl, hc1, hc2, row, hz, f⟩; have HROW := Lib.hid row; clear row)
      | (go_at_call 95; go_in)
      | (go_at_call 126; refine (lshVU_any z q (c - q) b off cap xs.length r (List.replicate c 0) xs _ HROW.out (by simp; omega) rfl (HSRC.out.fr f (by simp)) DX.out hr64 (.inl (by omega)) (by omega) hlc (by unfold maxLen; omega) (by omega)).mono ?_; rintro e w2 ⟨zs, k, rfl, row2, f2, hzl, hzd, hk0, hk1, hv⟩; have HZL := Lib.hid hzl; have HV := Lib.hid hv; have hfz := row2.frozen (xs.length + q); have cz := row2.cell (i := xs.length + q) (by rw [spl_len (by simp [HZL.out]; omega)]; simp; omega); obtain ⟨old, hold⟩ : ∃ old, old = (spl (List.replicate c (0 : Int)) q zs).getD (xs.length + q) 0 := ⟨_, rfl⟩; rw [← hold] at cz; have HR2 := Lib.hid row2; have HK1 := Lib.hid hk1; clear hold row2 hzl hv hk1)
      | (refine wp_clear rfl (.tmp 68) _ rfl .u64 77 8 ty_big (some ⟨z, 0, none⟩) z 0 q c rfl (fun _ => rfl) _ (row_top HR2.out HZL.out (by omega) k) (by rw [spl_len (by simp [HZL.out]; omega)]; simp; omega) ?_; intro w3 row3 f3; rw [spl_front (by simp [HZL.out]; omega)] at row3; have HR3 := Lib.hid row3; clear row3)
      | (go_at_call 88; refine (HFIN.out z c zs k _ HR3.out hc1 (by omega) HZL.out hzd hk0 ?_ HV.out).mono ?_; rotate_left; rintro e w4 ⟨⟨ys, rfl, g1, g2, g3, g4⟩, rfl⟩; have G1 := Lib.hid g1; have G2 := Lib.hid g2; have G3 := Lib.hid g3; have G4 := Lib.hid g4; clear g1 g2 g3 g4))
    · go_ret
      exact ⟨z, c, ys, rfl, G1.out, G2.out, G3.out, G4.out, hz, by omega, fr_new'' f (fr_same' (fr_same' f2 (by apply Fr.set _ (.inl (by simp)); exact Fr.refl _ _)) f3) hz⟩
    · have h1 := HK1.out
      have h2 := pow_le_pow_ (B := 2) (by omega) (show r ≤ 63 by omega)
      omega
set_option maxRecDepth 100000 in
set_option maxHeartbeats 1000000 in
/-- rsh by fewer bits than a word has, in place or apart -/
theorem rshR_lt (A : Option Addr) (l b o c : Nat) (Ax : Option Addr) (bx ox cx : Nat) (xs : List Int) (s : Nat) (w : World) (h : Rcv w A b o c) (hl : l ≤ c) (hc9 : c ≤ 4611686018427387904) (hx : Nm w Ax bx ox cx xs) (hd : DG 18446744073709551616 xs) (hp : 0 < xs.length) (hx9 : xs.length ≤ 1000000) (hal : Al b o c bx ox xs.length) (hs0 : 0 < s) (hs : s < 64) :
    Calls Tryd.prog 115 #[.slice A l c, .slice Ax xs.length cx, .int .u64 (s : Int)] w fun e w' => ∃ A' b' o' c' zs, e = .returned (.slice A' zs.length c') ∧ PutR w A b o c (val 18446744073709551616 xs / 2 ^ s) A' b' o' c' zs w' := by
  have hxc := hx.le
  have hcx := hx.max
  have hc := h.max
  obtain rfl := hx.addr hp
  obtain ⟨n, hn⟩ : ∃ n, n = xs.length := ⟨_, rfl⟩
  have hse : ((s : Int) == 0) = false := by rw [beq_eq_false_iff_ne]; omega
  have hs1 : (s : Int) / 64 = 0 := by omega
  have hs2 : (s : Int) % 64 = (s : Int) := by omega
  have CM := Lib.hid (makeR_any A l b o c n w h hl (by omega) (by omega))
  have HR := Lib.hid h
  have HX := Lib.hid hx
  have HD := Lib.hid hd
  have HAL := Lib.hid hal
  have HN := Lib.hid hn
  have hlt := hx.lt hp
  rw [← hn] at hp hx9 hxc ⊢
  have hw : IntKind.i64.wrap ((n : Int) - 0) = (n : Int) := by rw [IntKind.wrap_i64]; omega
  have hw1 : (n : Int) - 0 = (n : Int) := by omega
  have hw2 : (n : Int) - (n : Int) = 0 := by omega
  have hw3 : IntKind.i64.wrap ((n : Int) - (n : Int)) = 0 := by rw [IntKind.wrap_i64]; omega
  have hc0 : ¬ cx = 0 := by omega
  have CR : ∀ (b' o' c' : Nat) (Z : List Int) (W : World), Fr [] w W → Wr 77 W b' o' Z → Z.length = n → (bx ≠ b' ∨ o' ≤ ox ∨ ox + n ≤ o') → n ≤ c' → c' ≤ maxLen →
      Calls Tryd.prog 152 #[.slice (some ⟨b', o', none⟩) n c', .slice (some ⟨bx, ox, none⟩) n cx, .int .u64 (s : Int)] W fun e w' => ∃ zs k, e = .returned (.int .u64 k) ∧ Wr 77 w' b' o' zs ∧ Fc 77 (In1 b' o' n) W w' ∧ zs.length = n ∧ DG 18446744073709551616 zs ∧ val 18446744073709551616 zs = val 18446744073709551616 xs / 2 ^ s := by
    intro b' o' c' Z W f hz hZ hne h1 h2
    obtain ⟨_, L, hL, hLl⟩ := hz
    rw [hZ] at hLl
    refine (rshVU_any b' o' c' bx ox cx n s L xs W hL hLl hn.symm ((hx.fr0 f).2.2 (by omega)) hd hs hne h1 hxc hcx (by omega)).mono ?_
    rintro e w' ⟨zs, k, rfl, row, hf, hzl, hzd, h0, h1, hv⟩
    exact ⟨zs, k, rfl, Wr.of_spl row (by omega), fc_row (L' := L) hL row hf (by omega) (fun i a1 a2 => ⟨rfl, a1, by omega⟩), hzl, hzd, rsh_val hs h0 h1 hv⟩
  have HC := Lib.hid CR
  unfold maxLen at hc hcx
  clear h hx hd hal hn CR
  go_enter Tryd.func115, Tryd.ntmps115
  go_wp2_with (first
    | (go_at_call 97; refine (Hid.out CM).mono ?_; clear CM; intro e w1 hm; obtain ⟨b', o', c', Z, rfl, g1, h2, h3, h4, h5, h6, h7⟩ := hm.out (fun hc => HR.out.lt hc); have H2 := Lib.hid h2; have H3 := Lib.hid h3; have H4 := Lib.hid h4; have H5 := Lib.hid h5; have H7 := Lib.hid h7; clear hm h2 h3 h4 h5 h6 h7)
    | (go_at_call 137; go_in)
    | (go_at_call 152; refine (HC.out b' o' c' Z _ H5.out H3.out H4.out (by rcases H7.out with ⟨_, e1, e2, e3⟩ | ⟨a, _⟩; (subst e1; subst e2; subst e3; have h8 := HAL.out; have h9 := HN.out; unfold Al Dj at h8; omega); exact .inl (by omega)) g1 H2.out.max).mono ?_; rintro e w2 ⟨qs, k, rfl, wr2, f2, hql, hqd, hqv⟩; have HW2 := Lib.hid wr2; have HQV := Lib.hid hqv; have HF2 := Lib.hid f2; have CN := Lib.hid (normN_any (some ⟨b', o', none⟩) b' o' c' qs w2 (Nm.of_wr wr2 (H2.out.fc f2) (by omega)) hqd); rw [hql] at CN; clear wr2 hql hqd hqv f2)
    | (go_at_call 88; refine (CN.out).mono ?_; rintro e w4 ⟨⟨zs, rfl, n1, n2, n3, n4, n5⟩, rfl⟩; have N1 := Lib.hid n1; have N2 := Lib.hid n2; have N3 := Lib.hid n3; have N4 := Lib.hid n4; clear n1 n2 n3 n4 n5))
  go_ret
  refine ⟨_, b', o', c', zs, rfl, N1.out, N2.out, N3.out, by rw [N4.out, HQV.out], H7.out.imp id (fun a => ⟨a.1, by have := a.2; omega⟩), (Fc.fr0 H5.out _ _).trans HF2.out (fun x i hh hlt => ?_)⟩
  rcases H7.out with ⟨_, rfl, rfl, rfl⟩ | ⟨a, _⟩
  · exact In1.cap hh g1
  · have := hh.1; omega
end Go.Proofs.YtknokndpeneogaaDoor
end
section
namespace Go.Proofs.YtknokndpeneogaaDoor
open Go.Big Go.RowKit
attribute [local go_sem ↓] Go.wp_at_zero Go.wp_at_succ
/-- what stands ahead of the loop -/
structure SqC (s : Nat) (q : Option StkSt) (Ax : Option Addr) (bx ox cx : Nat) (xs : List Int) (X r : Int) (w : World) : Prop where
  st : StkAt w s q
  len : lenS q ≤ 1000000
  thr : Glo w 2 40
  td : Glo w 3 40
  x : Nm w Ax bx ox cx xs
  xd : DG 18446744073709551616 xs
  xz : NZ xs
  xl : xs.length ≤ 900
  cx9 : cx ≤ 4611686018427387904
  xo : Off (StS s q) bx ox xs.length
  xv : val 18446744073709551616 xs = X
  x2 : 2 ≤ X
  root : IsRoot X r
/-- at the loop's head -/
structure SqI (s : Nat) (q : Option StkSt) (X r : Int) (K : Nat) (w : World) (n : Nat) (A1 : Option Addr) (b1 o1 c1 : Nat) (zs : List Int) (A2 : Option Addr) (l2 b2 o2 c2 : Nat) (q' : Option StkSt) (wr : World) : Prop where
  st : StkAt wr s q'
  le : StkLe w.heap.size q q'
  ll : lenS q' = lenS q
  fc : Fc 77 (StS s q) w wr
  z : Nm wr A1 b1 o1 c1 zs
  zd : DG 18446744073709551616 zs
  zz : NZ zs
  z0 : r ≤ val 18446744073709551616 zs
  zx : val 18446744073709551616 zs ≤ X
  zc : (val 18446744073709551616 zs - r) * 2 ^ n < 2 ^ K
  nk : n ≤ K
  c19 : c1 ≤ 2000000
  zn : w.heap.size ≤ b1
  zo : Off (StS s q') b1 o1 c1
  y : Rcv wr A2 b2 o2 c2
  yl : l2 ≤ c2
  c29 : c2 ≤ 2000000
  yn : c2 = 0 ∨ w.heap.size ≤ b2
  ne : c2 = 0 ∨ b2 ≠ b1
  yo : Off (StS s q') b2 o2 c2
def SqJ (s : Nat) (q : Option StkSt) (X r : Int) (K : Nat) (w : World) (g : Nat) (v1 v2 v3 : Value) (wr : World) : Prop :=
  ∃ n A1 b1 o1 c1 zs A2 l2 b2 o2 c2 q', g = K + 1 - n ∧ v1 = .slice A1 zs.length c1 ∧ v2 = .slice A2 l2 c2 ∧ v3 = .int .i64 (n : Nat) ∧ SqI s q X r K w n A1 b1 o1 c1 zs A2 l2 b2 o2 c2 q' wr
/-- behind a step -/
structure SqE (s : Nat) (q : Option StkSt) (X : Int) (w : World) (A1 : Option Addr) (b1 o1 c1 : Nat) (zs : List Int) (A5 : Option Addr) (b5 o5 c5 : Nat) (ts : List Int) (q2 : Option StkSt) (w3 : World) : Prop where
  st : StkAt w3 s q2
  le : StkLe w.heap.size q q2
  ll : lenS q2 = lenS q
  fc : Fc 77 (StS s q) w w3
  z : Nm w3 A1 b1 o1 c1 zs
  t : Nm w3 A5 b5 o5 c5 ts
  td : DG 18446744073709551616 ts
  tz : NZ ts
  tv : val 18446744073709551616 ts = (X / val 18446744073709551616 zs + val 18446744073709551616 zs) / 2
  c59 : c5 ≤ 2000000
  tn : w.heap.size ≤ b5
  ne : b5 ≠ b1
  zo : Off (StS s q2) b1 o1 c1
  to_ : Off (StS s q2) b5 o5 c5
section
variable {s : Nat} {q : Option StkSt} {Ax : Option Addr} {bx ox cx : Nat} {xs : List Int} {X r : Int} {K n : Nat} {w wr w1 w2 w3 : World} {A1 : Option Addr} {b1 o1 c1 : Nat} {zs : List Int} {A2 : Option Addr} {l2 b2 o2 c2 : Nat} {q' q2 : Option StkSt}
theorem SqC.xp (C : SqC s q Ax bx ox cx xs X r w) : 0 < xs.length := by
  rcases Nat.eq_zero_or_pos xs.length with h | h
  · have e := List.eq_nil_of_length_eq_zero h
    have := C.xv; have := C.x2; rw [e, val_nil] at *; omega
  · exact h
theorem SqI.zp (C : SqC s q Ax bx ox cx xs X r w) (I : SqI s q X r K w n A1 b1 o1 c1 zs A2 l2 b2 o2 c2 q' wr) : 0 < val 18446744073709551616 zs ∧ 0 < zs.length ∧ zs.length ≤ xs.length := by
  have h1 := root_le C.root C.x2
  have h2 := I.z0
  refine ⟨by omega, ?_, ?_⟩
  · rcases Nat.eq_zero_or_pos zs.length with h | h
    · have e := List.eq_nil_of_length_eq_zero h
      rw [e, val_nil] at h2; omega
    · exact h
  · have h3 := val_lt (B := 18446744073709551616) (by omega) C.xd
    have h4 := I.zx
    rw [C.xv] at h3
    exact len_le (by omega) I.zd I.zz (by omega)
theorem sq_div (C : SqC s q Ax bx ox cx xs X r w) (I : SqI s q X r K w n A1 b1 o1 c1 zs A2 l2 b2 o2 c2 q' wr) :
    Calls Tryd.prog 85 #[.slice A2 l2 c2, .pointer (some ⟨s, 0, none⟩), .slice none 0 0, .slice Ax xs.length cx, .slice A1 zs.length c1] wr (DvPost s q' A2 b2 o2 c2 none wr.heap.size 0 0 X (val 18446744073709551616 zs) wr) := by
  obtain ⟨z1, z2, z3⟩ := I.zp C
  have hb := C.x.lt C.xp
  have := C.len
  have := I.ll
  have := C.xl
  have hxw : Off (StS s q') bx ox xs.length := off_le I.le (Nat.le_of_eq I.ll.symm) C.xo hb
  have hD := div_any (s := s) (q := q') (A := A2) (l := l2) (bz := b2) (oz := o2) (cz := c2) (Ay := none) (ly := 0) (by_ := wr.heap.size) (oy := 0) (cy := 0) (Au := Ax) (bu := bx) (ou := ox) (cu := cx) (us := xs) (Av := A1) (bv := b1) (ov := o1) (cv := c1) (vs := zs) (w := wr)
    ⟨I.st, by omega, C.thr.fc I.fc (glo_stk C.thr C.st 0), C.td.fc I.fc (glo_stk C.td C.st 0), I.y, I.yl, by have := I.c29; omega, Rcv.nil _ _ _, Nat.le_refl _, by omega, C.x.fc I.fc C.xo, C.xd, C.xz, by omega, C.cx9, I.z, I.zd, I.zz, z2, by omega, by have := I.c19; omega, I.yo, fun i _ h => by omega, hxw, Off.take I.zo I.z.le, .inr (.inr (.inr (.inl rfl))), .inr (.inr (.inr (.inl rfl))), .inr (.inr (.inr (.inl rfl))), by
      rcases I.yn with h | h
      · exact .inr (.inr (.inr (.inl h)))
      · exact .inl (by omega)⟩
  rwa [C.xv] at hD
variable {Aq : Option Addr} {bq oq cq : Nat} {qs : List Int} {A3 : Option Addr} {b3 o3 c3 : Nat} {rs : List Int}
/-- behind the division -/
theorem sq_d (C : SqC s q Ax bx ox cx xs X r w) (I : SqI s q X r K w n A1 b1 o1 c1 zs A2 l2 b2 o2 c2 q' wr) (D : DvR s q' A2 b2 o2 c2 none wr.heap.size 0 0 X (val 18446744073709551616 zs) wr Aq bq oq cq qs A3 b3 o3 c3 rs q2 w1) :
    0 < qs.length ∧ qs.length ≤ xs.length ∧ bq ≠ b1 ∧ w.heap.size ≤ bq ∧ cq ≤ 2000000 ∧ Nm w1 A1 b1 o1 c1 zs ∧ Fc 77 (StS s q) w w1 ∧ Off (StS s q2) b1 o1 c1 ∧ StkLe w.heap.size q q2 ∧ lenS q2 = lenS q := by
  obtain ⟨z1, z2, z3⟩ := I.zp C
  have hz := I.z.lt z2
  have hs := I.fc.size
  have hqv : 1 ≤ val 18446744073709551616 qs := by rw [D.qv]; exact Int.le_ediv_of_mul_le z1 (by have := I.zx; omega)
  have hql : 0 < qs.length := by
    rcases Nat.eq_zero_or_pos qs.length with h | h
    · have e := List.eq_nil_of_length_eq_zero h
      rw [e, val_nil] at hqv; omega
    · exact h
  have hcq : 0 < cq := by have := D.qn.le; omega
  have hqx : qs.length ≤ xs.length := by
    have h3 := val_lt (B := 18446744073709551616) (by omega) C.xd
    rw [C.xv] at h3
    have h4 := Int.ediv_le_self (val 18446744073709551616 zs) (show 0 ≤ X by have := C.x2; omega)
    exact len_le (by omega) D.qd D.qz (by rw [D.qv]; omega)
  have hp : bq ≠ b1 ∧ w.heap.size ≤ bq ∧ cq ≤ 2000000 := by
    rcases D.qp with ⟨_, rfl, rfl, rfl⟩ | ⟨h1, h2⟩
    · exact ⟨I.ne.resolve_left (by omega), I.yn.resolve_left (by omega), I.c29⟩
    · exact ⟨by omega, by omega, h2⟩
  have hoff : Off (fun b i => StS s q' b i ∨ In1 b2 o2 c2 b i ∨ In1 wr.heap.size 0 0 b i) b1 o1 c1 := fun i h1 h2 hh => by
    rcases hh with hh | hh | hh
    · exact I.zo i h1 h2 hh
    · have e1 := hh.1; have e2 := hh.2.1; have e3 := hh.2.2
      rcases I.ne with h | h
      · omega
      · exact h e1.symm
    · have e2 := hh.2.2; omega
  refine ⟨hql, hqx, hp.1, hp.2.1, hp.2.2, I.z.fc D.fc (Off.take hoff I.z.le), I.fc.trans D.fc (fun b i hh hlt => ?_), off_le D.le (Nat.le_of_eq D.ll.symm) I.zo hz, I.le.trans D.le hs, by rw [D.ll, I.ll]⟩
  rcases hh with hh | hh | hh
  · exact I.le.sub (Nat.le_of_eq I.ll.symm) b i hh hlt
  · have e1 := hh.1; have e2 := hh.2.1; have e3 := hh.2.2
    rcases I.yn with h | h <;> omega
  · have e2 := hh.2.2; omega
theorem sq_add (C : SqC s q Ax bx ox cx xs X r w) (I : SqI s q X r K w n A1 b1 o1 c1 zs A2 l2 b2 o2 c2 q' wr) (D : DvR s q' A2 b2 o2 c2 none wr.heap.size 0 0 X (val 18446744073709551616 zs) wr Aq bq oq cq qs A3 b3 o3 c3 rs q2 w1) :
    Calls Tryd.prog 81 #[.slice Aq qs.length cq, .slice Aq qs.length cq, .slice A1 zs.length c1] w1 (ResR w1 Aq bq oq cq (In1 bq oq 1000) (X / val 18446744073709551616 zs + val 18446744073709551616 zs)) := by
  obtain ⟨d1, d2, d3, d4, d5, d6, d7, d8, d9, d10⟩ := sq_d C I D
  obtain ⟨z1, z2, z3⟩ := I.zp C
  have := C.xl
  have := I.c19
  have h := naddR_any 1000 Aq qs.length bq oq cq Aq bq oq cq qs A1 b1 o1 c1 zs w1 D.qn.rcv D.qn.le D.qn D.qd D.qz d6 I.zd I.zz (by omega) (by omega) (by omega) (by omega) (by omega) (by omega) (fun _ => .inr ⟨rfl, rfl⟩) (fun _ => .inl (.inl (Ne.symm d3)))
  rwa [D.qv] at h
variable {A4 : Option Addr} {b4 o4 c4 : Nat} {ss : List Int}
/-- behind the sum -/
structure SqS (s : Nat) (q : Option StkSt) (X : Int) (w : World) (A1 : Option Addr) (b1 o1 c1 : Nat) (zs : List Int) (A4 : Option Addr) (b4 o4 c4 : Nat) (ss : List Int) (q2 : Option StkSt) (w2 : World) : Prop where
  st : StkAt w2 s q2
  le : StkLe w.heap.size q q2
  ll : lenS q2 = lenS q
  fc : Fc 77 (StS s q) w w2
  z : Nm w2 A1 b1 o1 c1 zs
  t : Nm w2 A4 b4 o4 c4 ss
  td : DG 18446744073709551616 ss
  tz : NZ ss
  tv : val 18446744073709551616 ss = X / val 18446744073709551616 zs + val 18446744073709551616 zs
  tp : 0 < ss.length
  tl : ss.length ≤ 1000
  c49 : c4 ≤ 2000000
  tn : w.heap.size ≤ b4
  ne : b4 ≠ b1
  zo : Off (StS s q2) b1 o1 c1
  to_ : Off (StS s q2) b4 o4 c4
  zl : b1 < w2.heap.size
theorem sq_s (C : SqC s q Ax bx ox cx xs X r w) (I : SqI s q X r K w n A1 b1 o1 c1 zs A2 l2 b2 o2 c2 q' wr) (D : DvR s q' A2 b2 o2 c2 none wr.heap.size 0 0 X (val 18446744073709551616 zs) wr Aq bq oq cq qs A3 b3 o3 c3 rs q2 w1)
    (g1 : Nm w2 A4 b4 o4 c4 ss) (g2 : DG 18446744073709551616 ss) (g3 : NZ ss) (g4 : val 18446744073709551616 ss = X / val 18446744073709551616 zs + val 18446744073709551616 zs) (g5 : (A4 = Aq ∧ b4 = bq ∧ o4 = oq ∧ c4 = cq) ∨ (w1.heap.size ≤ b4 ∧ c4 ≤ 2000000)) (g6 : Fc 77 (In1 bq oq 1000) w1 w2) :
    SqS s q X w A1 b1 o1 c1 zs A4 b4 o4 c4 ss q2 w2 := by
  obtain ⟨d1, d2, d3, d4, d5, d6, d7, d8, d9, d10⟩ := sq_d C I D
  obtain ⟨z1, z2, z3⟩ := I.zp C
  have hz1 := d6.lt z2
  have hs := g6.size
  have hx := C.x2
  have hq0 := Int.ediv_nonneg (show 0 ≤ X by omega) (Int.le_of_lt z1)
  have hrow : ∃ L, Row .u64 77 w1 bq L := by
    obtain ⟨L, hL, _⟩ := D.qn.rcv.row (by have := D.qn.le; omega)
    exact ⟨L, hL⟩
  obtain ⟨L, hL⟩ := hrow
  have st2 : StkAt w2 s q2 := D.st.fc g6 (fun i hh => D.st.row_ne hL hh.1.symm) (fun p hp i hh => by subst hp; exact D.st.2.row_ne hL hh.1.symm)
  have h3 := val_lt (B := 18446744073709551616) (by omega) C.xd
  rw [C.xv] at h3
  have h4 := Int.ediv_le_self (val 18446744073709551616 zs) (show 0 ≤ X by omega)
  have h5 := I.zx
  have hsl : ss.length ≤ xs.length + 1 := by
    refine len_le (by omega) g2 g3 ?_
    rw [g4, Int.pow_succ]
    have hP := pow_pos_ (B := 18446744073709551616) (by omega) xs.length
    omega
  have hsp : 0 < ss.length := by
    rcases Nat.eq_zero_or_pos ss.length with h | h
    · have e := List.eq_nil_of_length_eq_zero h
      rw [e, val_nil] at g4; omega
    · exact h
  have hp : c4 ≤ 2000000 ∧ w.heap.size ≤ b4 ∧ b4 ≠ b1 ∧ Off (StS s q2) b4 o4 c4 := by
    rcases g5 with ⟨_, rfl, rfl, rfl⟩ | ⟨h1, h2⟩
    · exact ⟨d5, d4, d3, D.qo⟩
    · exact ⟨h2, by have := d7.size; omega, by omega, fun i _ _ hi => by have := stk_lt D.st hi; omega⟩
  have := C.xl
  exact ⟨st2, d9, d10, d7.trans g6 (fun b i hh hlt => by have := hh.1; omega), d6.fc g6 (fun i _ _ hh => d3 hh.1.symm), g1, g2, g3, g4, hsp, by omega, hp.1, hp.2.1, hp.2.2.1, d8, hp.2.2.2, by omega⟩
theorem sq_e {A5 : Option Addr} {b5 o5 c5 : Nat} {ts : List Int} (S : SqS s q X w A1 b1 o1 c1 zs A4 b4 o4 c4 ss q2 w2) (P : PutR w2 A4 b4 o4 c4 ((X / val 18446744073709551616 zs + val 18446744073709551616 zs) / 2) A5 b5 o5 c5 ts w3) :
    SqE s q X w A1 b1 o1 c1 zs A5 b5 o5 c5 ts q2 w3 := by
  obtain ⟨p1, p2, p3, p4, p5, p6⟩ := P
  have hz := S.zl
  have hc4 : 0 < c4 := by have := S.t.le; have := S.tp; omega
  have hp : c5 ≤ 2000000 ∧ w.heap.size ≤ b5 ∧ b5 ≠ b1 ∧ Off (StS s q2) b5 o5 c5 := by
    rcases p5 with ⟨_, rfl, rfl, rfl⟩ | ⟨h1, h2⟩
    · exact ⟨S.c49, S.tn, S.ne, S.to_⟩
    · exact ⟨h2, by have := S.fc.size; omega, by omega, fun i _ _ hi => by have := stk_lt S.st hi; omega⟩
  exact ⟨st_rcv S.st S.t.rcv p6, S.le, S.ll, S.fc.trans p6 (fun b i hh hlt => by have := hh.1; have := S.tn; omega), S.z.fc p6 (fun i _ _ hh => S.ne hh.1.symm), p1, p2, p3, p4, hp.1, hp.2.1, hp.2.2.1, S.zo, hp.2.2.2⟩
/-- on to the next round -/
theorem sq_next {A5 : Option Addr} {b5 o5 c5 : Nat} {ts : List Int} (C : SqC s q Ax bx ox cx xs X r w) (I : SqI s q X r K w n A1 b1 o1 c1 zs A2 l2 b2 o2 c2 q' wr) (E : SqE s q X w A1 b1 o1 c1 zs A5 b5 o5 c5 ts q2 w3) (hlt : val 18446744073709551616 ts < val 18446744073709551616 zs) :
    n < K ∧ SqI s q X r K w (n + 1) A5 b5 o5 c5 ts A1 zs.length b1 o1 c1 q2 w3 := by
  have hr : r < val 18446744073709551616 zs := by
    rcases Int.lt_or_le r (val 18446744073709551616 zs) with h | h
    · exact h
    · have e : val 18446744073709551616 zs = r := by have := I.z0; omega
      have h1 := root_stop C.root (by have := root_le C.root C.x2; omega)
      rw [E.tv, e] at hlt
      omega
  obtain ⟨k1, k2, k3⟩ := root_step C.root hr
  rw [← E.tv] at k1 k2 k3
  obtain ⟨m1, m2⟩ := root_count I.zc hr k2
  have := I.zx
  exact ⟨m2, E.st, E.le, E.ll, E.fc, E.t, E.td, E.tz, k1, by omega, m1, by omega, E.c59, E.tn, E.to_, E.z.rcv, E.z.le, I.c19, .inr I.zn, .inr (Ne.symm E.ne), E.zo⟩
theorem sq_stop {A5 : Option Addr} {b5 o5 c5 : Nat} {ts : List Int} (C : SqC s q Ax bx ox cx xs X r w) (I : SqI s q X r K w n A1 b1 o1 c1 zs A2 l2 b2 o2 c2 q' wr) (E : SqE s q X w A1 b1 o1 c1 zs A5 b5 o5 c5 ts q2 w3) (hge : val 18446744073709551616 zs ≤ val 18446744073709551616 ts) : val 18446744073709551616 zs = r := by
  rcases Int.lt_or_le r (val 18446744073709551616 zs) with h | h
  · have := (root_step C.root h).2.2
    rw [← E.tv] at this
    omega
  · have := I.z0; omega
end
end Go.Proofs.YtknokndpeneogaaDoor
end
section
namespace Go.Proofs.YtknokndpeneogaaDoor
open Go.Big Go.RowKit
attribute [local go_sem ↓] Go.wp_at_zero Go.wp_at_succ
theorem SqE.fr0 {s : Nat} {q : Option StkSt} {X : Int} {w w3 w4 : World} {A1 : Option Addr} {b1 o1 c1 : Nat} {zs : List Int} {A5 : Option Addr} {b5 o5 c5 : Nat} {ts : List Int} {q2 : Option StkSt} (E : SqE s q X w A1 b1 o1 c1 zs A5 b5 o5 c5 ts q2 w3) (f : Fr [] w3 w4) : SqE s q X w A1 b1 o1 c1 zs A5 b5 o5 c5 ts q2 w4 :=
  ⟨E.st.fr0 f, E.le, E.ll, E.fc.t (Fc.fr0 f _ _), E.z.fr0 f, E.t.fr0 f, E.td, E.tz, E.tv, E.c59, E.tn, E.ne, E.zo, E.to_⟩
def SqPost (s : Nat) (q : Option StkSt) (r : Int) (w : World) (e : Ending) (w' : World) : Prop := ∃ v, e = .returned v ∧ SW w' v r ∧ Fc 77 (StS s q) w w'
theorem sq_start {s : Nat} {q : Option StkSt} {Ax : Option Addr} {bx ox cx : Nat} {xs : List Int} {X r : Int} {w w1 : World} {L k z c : Nat} {zs : List Int} (C : SqC s q Ax bx ox cx xs X r w) (hL : IsLen X L) (hk : k = (L + 1) / 2) (f : Fr [] w w1) (hz : Nm w1 (some ⟨z, 0, none⟩) z 0 c zs) (hd : DG 18446744073709551616 zs) (hn : NZ zs) (hv : val 18446744073709551616 zs = 1 * 2 ^ k) (hzs : w.heap.size ≤ z) (hc : c ≤ 2000000) :
    SqI s q X r k w 0 (some ⟨z, 0, none⟩) z 0 c zs none 0 w.heap.size 0 0 q w1 := by
  have x2 := C.x2
  have hr := root_le C.root x2
  rw [Int.one_mul] at hv
  rcases hL with ⟨h, _⟩ | ⟨h1, h2, h3⟩
  · omega
  have hs := root_start C.root h3
  rw [← hk] at hs
  have hL2 : 2 ≤ L := by
    rcases Nat.lt_or_ge L 2 with h | h
    · obtain rfl : L = 1 := by omega
      have e : (2 : Int) ^ 1 = 2 := rfl
      omega
    · exact h
  have hzx := pow_le_pow_ (B := 2) (by omega) (show k ≤ L - 1 by omega)
  exact ⟨C.st.fr0 f, StkLe.refl _ _, rfl, Fc.fr0 f _ _, hz, hd, hn, by omega, by omega, by rw [hv, Int.pow_zero, Int.mul_one]; omega, Nat.zero_le _, hc, hzs, fun i _ _ hi => by have := stk_lt C.st hi; omega, Rcv.nil _ _ _, Nat.le_refl _, by omega, .inl rfl, .inl rfl, fun i _ h => by omega⟩
set_option maxRecDepth 100000 in
set_option maxHeartbeats 8000000 in
theorem sqrt_big {s : Nat} {q : Option StkSt} {Ax : Option Addr} {bx ox cx : Nat} {xs : List Int} {X r : Int} {w : World} (h : SqC s q Ax bx ox cx xs X r w) :
    Calls Tryd.prog 86 #[.slice none 0 0, .pointer (some ⟨s, 0, none⟩), .slice Ax xs.length cx] w (SqPost s q r w) := by
  have C := Lib.hid h
  have hxl := h.xl
  have hxc := h.x.le
  have cx9 := h.cx9
  have hsx : SW w (.slice Ax xs.length cx) X := by have := h.x.sw h.xd h.xz; rwa [h.xv] at this
  have SX := Lib.hid hsx
  have XB := Lib.hid (show X < BIG by rw [← h.xv]; exact words_BIG h.xd (by omega))
  have XW := Lib.hid (show X < 2 ^ 57600 by
    have h3 := val_lt_of_len (B := 18446744073709551616) (by omega) h.xd (k := 900) (by omega)
    rw [h.xv] at h3
    have e : (18446744073709551616 : Int) ^ 900 = 2 ^ (64 * 900) := by rw [Int.pow_mul]; rfl
    rw [e] at h3
    exact h3)
  have HC1 := Lib.hid (show cmpI X 1 = 1 by have := h.x2; unfold cmpI; rw [if_neg (by omega), if_pos (by omega)])
  clear h hsx
  go_enter_defers Tryd.func86, Tryd.ntmps86
  refine wp_mono ?_ bodyPostN_D
  go_wp2_with (first
    | (go_at_call 113; refine (natOne_any _).mono ?_; rintro e w1 ⟨v1, rfl, sw1, f1⟩)
    | (go_at_call 80; refine (bcmp_any _ _ X 1 _ (SX.out.fr0 f1) sw1).mono ?_; rw [HC1.out]; rintro e w2 ⟨rfl, f2⟩)
    | (go_at_call 98; refine (alias_nil _ _ _ _).mono ?_; rintro e w3 ⟨rfl, f3⟩)
    | (go_at_call 114; refine (setOne _).mono ?_; rintro e w4 ⟨g1, rfl, row4, hg4, f4⟩; have R4 := Lib.hid row4; have G4 := Lib.hid hg4; clear row4 hg4)
    | (go_at_call 71; refine (bitLen_any _ X _ ((((SX.out.fr0 f1).fr0 f2).fr0 f3).fr0 f4) XB.out).mono ?_; rintro e w5 ⟨L, rfl, hL, hL9, rfl⟩; obtain ⟨k, hk⟩ : ∃ k, k = (L + 1) / 2 := ⟨_, rfl⟩; have HL := Lib.hid hL; have HK := Lib.hid hk; have e1 : IntKind.i64.wrap ((L : Int) + 1) = (L : Int) + 1 := (by rw [IntKind.wrap_i64]; omega); have e2 : IntKind.u64.wrap ((L : Int) + 1) = (L : Int) + 1 := (by rw [IntKind.wrap_u64]; omega); have e3 : ((L : Int) + 1) / 2 = (k : Int) := (by omega); have L58 : L ≤ 57600 := (by rcases Nat.lt_or_ge 57600 L with hh | hh; (exfalso; rcases hL with ⟨_, h0⟩ | ⟨_, h2, _⟩; omega; have := pow_le_pow_ (B := 2) (by omega) (show 57600 ≤ L - 1 by omega); have := XW.out; omega); exact hh); have hk0 : 0 < k := (by rcases hL with ⟨h0, _⟩ | ⟨h1, _, _⟩; (have := C.out.x2; omega); omega); clear hL hk hL9)
    | (go_at_call 83; refine (lshN_any _ 1 1 g1 0 1 [1] k _ (Nat.le_refl _) (by have := R4.out.src (Nat.zero_le _); exact this) R4.out.lt (DG.cons (by omega) (by omega) (DG.nil _)) (by simp) (by simp) (by simp) (by unfold maxLen; omega) hk0 (by omega) (by simp only [List.length_cons, List.length_nil]; omega)).mono ?_; rw [show val 18446744073709551616 [1] = 1 by decide]; rintro e w6 ⟨z, c, zs, rfl, z1, z2, z3, z4, z5, z6, f6⟩; have I0 := Lib.hid (sq_start C.out HL.out HK.out ((((f1.t f2).t f3).t f4).t f6) z1 z2 z3 z4 (by have := (((f1.t f2).t f3).t f4).size; omega) z6); clear z1 z2 z3 z4 z5 z6))
  go_loopg [7, 8, 9] (k + 1) (SqJ s q X r k w)
  case atStart => exact ⟨0, _, _, _, _, zs, _, _, _, _, _, _, rfl, rfl, rfl, rfl, I0.out⟩
  case round =>
    obtain ⟨n, A1, b1, o1, c1, zs', A2, l2, b2, o2, c2, q', rfl, rfl, rfl, rfl, hi⟩ := hrel
    have I := Lib.hid hi
    have c19 := hi.c19
    have c29 := hi.c29
    have hnk := hi.nk
    have hzl := hi.z.le
    have hz9 := (hi.zp C.out).2.2
    have hyl := hi.yl
    clear hi I0 R4 G4
    go_upto_if 55 with (first
      | (go_at_call 85; refine (sq_div C.out I.out).mono ?_; rintro e w7 ⟨Aq, bq, oq, cq, qs, A3, b3, o3, c3, rs, q2, rfl, d⟩; have D := Lib.hid d; have dl := d.qn.le; have dm := (sq_d C.out I.out d).2.2.2.2.1; have dx := (sq_d C.out I.out d).2.1; clear d)
      | (go_at_call 81; refine (sq_add C.out I.out D.out).mono ?_; rintro e w8 ⟨A4, b4, o4, c4, ss, rfl, g1, g2, g3, g4, g5, g6⟩; have S := Lib.hid (sq_s C.out I.out D.out g1 g2 g3 g4 g5 g6); have sl := g1.le; have sm := S.out.c49; have s9 := S.out.tl; clear g1 g2 g3 g4 g5 g6)
      | (go_at_call 115; have hrs := rshR_lt A4 ss.length b4 o4 c4 A4 b4 o4 c4 ss 1 w8 S.out.t.rcv S.out.t.le (by omega) S.out.t S.out.td S.out.tp (by omega) (.inr ⟨rfl, rfl⟩) (by omega) (by omega); rw [show ((1 : Nat) : Int) = 1 from rfl, show (2 : Int) ^ 1 = 2 from rfl, S.out.tv] at hrs; refine hrs.mono ?_; clear hrs; rintro e w9 ⟨A5, b5, o5, c5, ts, rfl, P⟩; have E := Lib.hid (sq_e S.out P); have tl := P.1.le; have tm := E.out.c59; clear P)
      | (go_at_call 80; have hcm := bcmp_any _ _ _ _ w9 (E.out.t.sw E.out.td E.out.tz) (E.out.z.sw I.out.zd I.out.zz); obtain ⟨ec, hec⟩ : ∃ x, x = cmpI (val 18446744073709551616 ts) (val 18446744073709551616 zs') := ⟨_, rfl⟩; rw [← hec] at hcm; refine hcm.mono ?_; clear hcm; rintro e w10 ⟨rfl, f10⟩; have HEC := Lib.hid hec; have E4 := Lib.hid (E.out.fr0 f10); clear hec))
    by_cases hlt : val 18446744073709551616 ts < val 18446744073709551616 zs'
    · obtain ⟨hn, hI⟩ := sq_next C.out I.out E4.out hlt
      have HI := Lib.hid hI
      have he : ec = -1 := by rw [HEC.out]; unfold cmpI; rw [if_pos hlt]
      subst he
      clear hlt hI
      go_wp2_with fail
      go_roundg (k + 1 - (n + 1))
      case measure => omega
      case rel => exact ⟨n + 1, _, _, _, _, ts, _, _, _, _, _, _, rfl, rfl, rfl, by first | rfl | go_num, HI.out⟩
    · have he : 0 ≤ ec := by rw [HEC.out]; unfold cmpI; rw [if_neg hlt]; split <;> omega
      have hr := Lib.hid (sq_stop C.out I.out E4.out (by omega))
      have hd : decide (0 ≤ ec) = true := decide_eq_true he
      clear hlt
      try simp only [hd]
      go_upto_if 58 with fail
      obtain ⟨pb, hpb⟩ : ∃ x, x = (bits .and .i64 (n : Int) 1 == 0) := ⟨_, rfl⟩
      have CS := Lib.hid (setR_all none 0 w10.heap.size 0 0 A1 b1 o1 c1 zs' w10 E4.out.z I.out.zd I.out.zz (Rcv.nil _ _ _) (Nat.le_refl _) (by omega))
      try rw [← hpb]
      clear hpb
      cases pb with
      | true =>
        go_wp2_with fail
        show Leaves _ _ _ _ _ _ _
        refine ⟨_, results_tmp rfl _ _ _, ?_⟩
        exact ⟨_, rfl, by have := E4.out.z.sw I.out.zd I.out.zz; rw [hr.out] at this; exact this, E4.out.fc⟩
      | false =>
        go_wp2_with (go_at_call 106; refine (CS.out).mono ?_; rintro e w11 ⟨A6, b6, o6, c6, us, rfl, hp⟩; have HP := Lib.hid hp; clear hp)
        show Leaves _ _ _ _ _ _ _
        refine ⟨_, results_tmp rfl _ _ _, ?_⟩
        obtain ⟨p1, p2, p3, p4, p5, p6⟩ := HP.out
        exact ⟨_, rfl, by have := p1.sw p2 p3; rw [p4, hr.out] at this; exact this, E4.out.fc.trans p6 (fun b i hh _ => by have := hh.2.2; have := hh.2.1; omega)⟩
set_option maxRecDepth 100000 in
set_option maxHeartbeats 2000000 in
theorem sqrt_small {s : Nat} {Ax : Option Addr} {bx ox cx : Nat} {xs : List Int} {X : Int} {w : World} {q : Option StkSt} (hx : Nm w Ax bx ox cx xs) (hd : DG 18446744073709551616 xs) (hz : NZ xs) (hl : xs.length ≤ 900) (hcx : cx ≤ 4611686018427387904) (hv : val 18446744073709551616 xs = X) (h2 : X < 2) :
    Calls Tryd.prog 86 #[.slice none 0 0, .pointer (some ⟨s, 0, none⟩), .slice Ax xs.length cx] w (SqPost s q X w) := by
  have hxc := hx.le
  have SX : Hid (SW w (.slice Ax xs.length cx) X) := Lib.hid (by have := hx.sw hd hz; rwa [hv] at this)
  obtain ⟨ec, hec⟩ : ∃ x, x = cmpI X 1 := ⟨_, rfl⟩
  have he : ec ≤ 0 := by rw [hec]; unfold cmpI; split <;> (try split) <;> omega
  have HEC := Lib.hid hec
  have CS := Lib.hid (fun W (f : Fr [] w W) => setR_all none 0 W.heap.size 0 0 Ax bx ox cx xs W (hx.fr0 f) hd hz (Rcv.nil _ _ _) (Nat.le_refl _) (by omega))
  rw [hv] at CS
  clear hx hd hz hv hec
  go_enter_defers Tryd.func86, Tryd.ntmps86
  refine wp_mono ?_ bodyPostN_D
  go_wp2_with (first
    | (go_at_call 113; refine (natOne_any _).mono ?_; rintro e w1 ⟨v1, rfl, sw1, f1⟩)
    | (go_at_call 80; refine (bcmp_any _ _ X 1 _ (SX.out.fr0 f1) sw1).mono ?_; rw [← HEC.out]; rintro e w2 ⟨rfl, f2⟩)
    | (go_at_call 106; refine (CS.out _ (f1.t f2)).mono ?_; rintro e w11 ⟨A6, b6, o6, c6, us, rfl, hp⟩; have HP := Lib.hid hp; clear hp))
  show Leaves _ _ _ _ _ _ _
  refine ⟨_, results_tmp rfl _ _ _, ?_⟩
  obtain ⟨p1, p2, p3, p4, p5, p6⟩ := HP.out
  exact ⟨_, rfl, by have := p1.sw p2 p3; rw [p4] at this; exact this, (Fc.fr0 (f1.t f2) _ _).trans p6 (fun b i hh _ => by have := hh.2.2; have := hh.2.1; omega)⟩
end Go.Proofs.YtknokndpeneogaaDoor
end
