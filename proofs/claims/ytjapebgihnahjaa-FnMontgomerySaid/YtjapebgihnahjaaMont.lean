/-
  Montgomery's product and the opposite of an inverse. Conditions: what is read can be read; the modulus is odd.
-/
import Derived.Test.YtjapebgihnahjaaBMul
import Derived.Test.YtjapebgihnahjaaSetN
import Derived.Test.YtjapebgihnahjaaSubL
import Derived.Test.YtjapebgihnahjaaSetBitL
import Derived.Test.YtjapebgihnahjaaMulAddW
set_option linter.unusedSimpArgs false
set_option linter.unusedVariables false
namespace Go.Big
theorem opp_step {x v M a b v' : Int} (hM : M * M ∣ 18446744073709551616) (h : M ∣ 1 - x * v) (ha : a = (x * v) % 18446744073709551616) (hb : b = (2 - a) % 18446744073709551616) (hv : v' = (v * b) % 18446744073709551616) : M * M ∣ 1 - x * v' := by
  obtain ⟨p, hp⟩ := h
  obtain ⟨q, hq⟩ := hM
  have e1 := Int.emod_add_mul_ediv (x * v) 18446744073709551616
  have e2 := Int.emod_add_mul_ediv (2 - a) 18446744073709551616
  have e3 := Int.emod_add_mul_ediv (v * b) 18446744073709551616
  rw [← ha] at e1
  rw [← hb] at e2
  rw [← hv] at e3
  generalize (x * v) / 18446744073709551616 = k1 at e1
  generalize (2 - a) / 18446744073709551616 = k2 at e2
  generalize (v * b) / 18446744073709551616 = k3 at e3
  refine ⟨p * p + q * (x * (k3 - v * (k1 - k2))), ?_⟩
  have hv1 : v' = v * b - 18446744073709551616 * k3 := by omega
  have hb1 : b = 2 - x * v + 18446744073709551616 * (k1 - k2) := by omega
  rw [hv1, hb1, hq]
  have : 1 - x * (v * (2 - x * v + M * M * q * (k1 - k2)) - M * M * q * k3) = (1 - x * v) * (1 - x * v) + M * M * (q * (x * (k3 - v * (k1 - k2)))) := by grind
  rw [this, hp]
  grind
/-- a round of Montgomery's product -/
theorem mont_step {W Wn Wn1 A A1 A2 B X Y Y' M c c2 c3 cy nc d t T T' U Wi : Int} (h1 : A1 + Wn * c2 = A + X * d) (h2 : A2 + Wn * c3 = A1 + M * t) (h3 : cy + W * nc = c + c2 + c3) (h4 : A2 = W * B) (hT : T = A + Wn * c) (hW : Wn = W * Wn1) (hT' : T' = B + Wn1 * cy + Wn * nc)
    (h : T * Wi = X * Y + M * U) (hY : Y' = Y + Wi * d) : T' * (Wi * W) = X * Y' + M * (U + Wi * t) := by
  have e : W * T' = T + X * d + M * t := by
    rw [hT', hT]
    have : W * (B + Wn1 * cy + Wn * nc) = W * B + (W * Wn1) * (cy + W * nc) := by rw [hW]; grind
    rw [this, ← h4, ← hW, h3]
    grind
  have e2 : T' * (Wi * W) = Wi * (W * T') := by grind
  rw [e2, e, hY]
  have e3 : Wi * (T + X * d + M * t) = T * Wi + X * (Wi * d) + M * (Wi * t) := by grind
  rw [e3, h]
  grind
/-- what is left lies below 2^64n + M -/
theorem mont_bound {Wn X Y M U T : Int} (hX : 0 ≤ X) (hX1 : X < Wn) (hY : 0 ≤ Y) (hY1 : Y < Wn) (hM : 0 ≤ M) (hU : U < Wn) (h : T * Wn = X * Y + M * U) : T < Wn + M ∨ Wn ≤ 0 := by
  by_cases h0 : Wn ≤ 0
  · exact .inr h0
  · left
    have e1 : X * Y ≤ (Wn - 1) * (Wn - 1) := Int.mul_le_mul (by omega) (by omega) hY (by omega)
    have e2 : M * U ≤ M * (Wn - 1) := Int.mul_le_mul_of_nonneg_left (by omega) hM
    have e3 : T * Wn < (Wn + M) * Wn := by
      rw [h]
      have : (Wn - 1) * (Wn - 1) = Wn * Wn - 2 * Wn + 1 := by grind
      have : M * (Wn - 1) = M * Wn - M := by grind
      have : (Wn + M) * Wn = Wn * Wn + M * Wn := by grind
      omega
    exact Int.lt_of_mul_lt_mul_right e3 (by omega)
theorem window_next {Z : List Int} {i n : Nat} {cy : Int} (h : n + i < Z.length) (hn : 0 < n) : ((Z.set (n + i) cy).drop (i + 1)).take n = ((Z.drop i).take n).drop 1 ++ [cy] := by
  apply List.ext_getElem
  · simp; omega
  · intro j h1 h2
    simp only [List.getElem_take, List.getElem_drop, List.getElem_set, List.getElem_append, List.length_drop, List.length_take]
    simp only [List.length_take, List.length_drop, List.length_set] at h1
    by_cases hj : j + 1 < n
    · rw [if_neg (by omega), dif_pos (by omega)]
      congr 1; omega
    · have : j = n - 1 := by omega
      rw [if_pos (by omega), dif_neg (by omega)]
      simp
end Go.Big
namespace Go.Proofs.Ytjapebgihnahjaa
open Go.Big Go.RowKit
def OpRel (x : Int) (w : World) (g : Nat) (vv iv : Value) (wr : World) : Prop :=
  ∃ (k : Nat) (v : Int), k ≤ 6 ∧ g = 6 - k ∧ iv = .int .i64 k ∧ vv = .int .u64 v ∧ 0 ≤ v ∧ v < 18446744073709551616 ∧ (2 : Int) ^ (2 ^ k) ∣ 1 - x * v ∧ w = wr
set_option maxRecDepth 100000 in
theorem opp_any (x : Int) (w : World) (h0 : 0 ≤ x) (h1 : x < 18446744073709551616) (hodd : x % 2 = 1) :
    Calls Try.prog 54 #[.int .u64 x] w fun e w' => ∃ o, e = .returned (.int .u64 o) ∧ 0 ≤ o ∧ o < 18446744073709551616 ∧ (18446744073709551616 : Int) ∣ x * o + 1 ∧ w = w' := by
  have HO := Lib.hid hodd
  clear hodd
  go_enter Try.func54, Try.ntmps54
  go_wp2_with fail
  go_loopg [3, 4] 6 (OpRel x w)
  case atStart => exact ⟨0, 1, by omega, rfl, rfl, rfl, by omega, by omega, ⟨-(x / 2), by have := HO.out; simp; omega⟩, rfl⟩
  case round =>
    obtain ⟨k, v, hk, rfl, rfl, rfl, hv0, hv1, hdv, rfl⟩ := hrel
    by_cases h2 : k < 6
    · obtain ⟨a, ha⟩ : ∃ a, a = (x * v) % 18446744073709551616 := ⟨_, rfl⟩
      obtain ⟨b, hb⟩ : ∃ b, b = (2 - a) % 18446744073709551616 := ⟨_, rfl⟩
      obtain ⟨v', hv'⟩ : ∃ v', v' = (v * b) % 18446744073709551616 := ⟨_, rfl⟩
      have hwa : IntKind.u64.wrap (x * v) = a := by rw [IntKind.wrap_u64, ha]
      have hwb : IntKind.u64.wrap (2 - a) = b := by rw [IntKind.wrap_u64, hb]
      have hwv : IntKind.u64.wrap (v * b) = v' := by rw [IntKind.wrap_u64, hv']
      have hst : (2 : Int) ^ (2 ^ (k + 1)) ∣ 1 - x * v' := by
        have e : (2 : Int) ^ (2 ^ (k + 1)) = 2 ^ (2 ^ k) * 2 ^ (2 ^ k) := by rw [← Int.pow_add]; congr 1; rw [Nat.pow_succ]; omega
        rw [e]
        refine opp_step ?_ hdv ha hb hv'
        rw [← e]
        have hle : 2 ^ (k + 1) ≤ 64 := by
          have := Nat.pow_le_pow_right (n := 2) (by omega) (show k + 1 ≤ 6 by omega)
          simpa using this
        refine ⟨2 ^ (64 - 2 ^ (k + 1)), ?_⟩
        rw [← Int.pow_add, show 2 ^ (k + 1) + (64 - 2 ^ (k + 1)) = 64 by omega]
        rfl
      have hv'0 : 0 ≤ v' := by omega
      have hv'1 : v' < 18446744073709551616 := by omega
      have HST := Lib.hid hst
      clear ha hb hv' hst hdv
      go_wp2_with fail
      go_roundg (6 - (k + 1))
      case measure => omega
      case rel => exact ⟨k + 1, v', by omega, rfl, by go_num, rfl, hv'0, hv'1, HST.out, rfl⟩
    · obtain rfl : k = 6 := by omega
      obtain ⟨o, ho⟩ : ∃ o, o = (-v) % 18446744073709551616 := ⟨_, rfl⟩
      have hwo : IntKind.u64.wrap (-v) = o := by rw [IntKind.wrap_u64, ho]
      have hfin : (18446744073709551616 : Int) ∣ x * o + 1 := by
        obtain ⟨p, hp⟩ := hdv
        have e := Int.emod_add_mul_ediv (-v) 18446744073709551616
        rw [← ho] at e
        generalize (-v) / 18446744073709551616 = k1 at e
        refine ⟨p - x * k1, ?_⟩
        have ho1 : o = -v - 18446744073709551616 * k1 := by omega
        have hp' : 1 - x * v = 18446744073709551616 * p := hp
        rw [ho1]
        grind
      have HF := Lib.hid hfin
      have ho0 : 0 ≤ o := by omega
      have ho1 : o < 18446744073709551616 := by omega
      clear ho hfin hdv
      go_wp2_with fail
      go_ret
      exact ⟨o, rfl, ho0, ho1, HF.out, rfl⟩
def MoRel (X M : Int) (ys : List Int) (z c n : Nat) (w1 : World) (g : Nat) (cv iv : Value) (wr : World) : Prop :=
  ∃ (i : Nat) (k : Int) (Z : List Int) (U : Int), i ≤ n ∧ g = n - i ∧ iv = .int .i64 i ∧ cv = .int .u64 k ∧ (k = 0 ∨ k = 1) ∧ Row .u64 87 wr z Z ∧ Fr [z] w1 wr ∧ Z.length = c ∧ DG 18446744073709551616 Z ∧ 0 ≤ U ∧ U < 18446744073709551616 ^ i ∧
    (val 18446744073709551616 ((Z.drop i).take n) + 18446744073709551616 ^ n * k) * 18446744073709551616 ^ i = X * val 18446744073709551616 (ys.take i) + M * U
/-- the two carries: what is written, what is carried on -/
theorem mo_carry {c c2 c3 cx cy : Int} (hc : c = 0 ∨ c = 1) (h20 : 0 ≤ c2) (h21 : c2 < 18446744073709551616) (h30 : 0 ≤ c3) (h31 : c3 < 18446744073709551616) (hx : cx = (c + c2) % 18446744073709551616) (hy : cy = (cx + c3) % 18446744073709551616) :
    0 ≤ cy ∧ cy < 18446744073709551616 ∧ ((cx < c2 ∧ cy + 18446744073709551616 * 1 = c + c2 + c3) ∨ (¬ cx < c2 ∧ cy < c3 ∧ cy + 18446744073709551616 * 1 = c + c2 + c3) ∨ (¬ cx < c2 ∧ ¬ cy < c3 ∧ cy + 18446744073709551616 * 0 = c + c2 + c3)) := by
  rcases hc with rfl | rfl <;> omega
theorem mo_low {A1 A2 M t k m0 s0 Wn Wn1 c3 a0 B1 Bm : Int} (h2 : A2 + Wn * c3 = A1 + M * t) (hW : Wn = 18446744073709551616 * Wn1) (hA1 : A1 = a0 + 18446744073709551616 * B1) (hM : M = m0 + 18446744073709551616 * Bm) (ht : t = (a0 * k) % 18446744073709551616) (hk : (18446744073709551616 : Int) ∣ m0 * k + 1) (hs : s0 = A2 % 18446744073709551616) : s0 = 0 := by
  obtain ⟨p, hp⟩ := hk
  have e := Int.emod_add_mul_ediv (a0 * k) 18446744073709551616
  rw [← ht] at e
  generalize (a0 * k) / 18446744073709551616 = q at e
  have ht1 : t = a0 * k - 18446744073709551616 * q := by omega
  have : A2 = 18446744073709551616 * (B1 + Bm * t - m0 * q + a0 * p - Wn1 * c3) := by
    have e1 : A2 = A1 + M * t - Wn * c3 := by omega
    rw [e1, hW, hA1, hM]
    have e2 : (m0 + 18446744073709551616 * Bm) * t = m0 * t + 18446744073709551616 * (Bm * t) := by grind
    have e3 : m0 * t = a0 * (m0 * k) - 18446744073709551616 * (m0 * q) := by rw [ht1]; grind
    have e4 : m0 * k = 18446744073709551616 * p - 1 := by omega
    rw [e2, e3, e4]
    grind
  rw [hs, this]
  exact Int.mul_emod_right _ _
theorem val_head {zs : List Int} (h : 0 < zs.length) : val 18446744073709551616 zs = zs.getD 0 0 + 18446744073709551616 * val 18446744073709551616 (zs.drop 1) := by
  cases zs with
  | nil => simp at h
  | cons z zs => simp [val_cons]
set_option maxRecDepth 100000 in
set_option maxHeartbeats 4000000 in
theorem mont_any (vx vy vm : Value) (xs ys ms : List Int) (n : Nat) (k : Int) (w : World) (hx : Sl .u64 w vx xs) (hy : Sl .u64 w vy ys) (hm : Sl .u64 w vm ms) (hdx : DG 18446744073709551616 xs) (hdy : DG 18446744073709551616 ys) (hdm : DG 18446744073709551616 ms)
    (hnx : xs.length = n) (hny : ys.length = n) (hnm : ms.length = n) (hn0 : 0 < n) (hn9 : n ≤ 100000) (hk0 : 0 ≤ k) (hk1 : k < 18446744073709551616) (hk : (18446744073709551616 : Int) ∣ ms.getD 0 0 * k + 1) :
    Calls Try.prog 112 #[.slice none 0 0, vx, vy, vm, .int .u64 k, .int .i64 (n : Int)] w fun e w' => ∃ v zs, e = .returned v ∧ Sl .u64 w' v zs ∧ zs.length = n ∧ DG 18446744073709551616 zs ∧ (val 18446744073709551616 ms ∣ val 18446744073709551616 zs * 18446744073709551616 ^ n - val 18446744073709551616 xs * val 18446744073709551616 ys) ∧ Fr [] w w' := by
  obtain ⟨A, cx, rfl, hcx, hmx, hsx⟩ := hx
  obtain ⟨B, cy, rfl, hcy, hmy, hsy⟩ := hy
  obtain ⟨C, cm, rfl, hcm, hmm, hsm⟩ := hm
  obtain ⟨bx, ox, rfl, hbx, sx⟩ := hsx (by omega)
  obtain ⟨by_, oy, rfl, hby, sy⟩ := hsy (by omega)
  obtain ⟨bm, om, rfl, hbm, sm⟩ := hsm (by omega)
  unfold maxLen at hmx hmy hmm
  have HSX := Lib.hid sx
  have HSY := Lib.hid sy
  have HSM := Lib.hid sm
  have HDX := Lib.hid hdx
  have HDY := Lib.hid hdy
  have HDM := Lib.hid hdm
  have HNX := Lib.hid hnx
  have HNY := Lib.hid hny
  have HNM := Lib.hid hnm
  have HK := Lib.hid hk
  rw [hnx] at hcx ⊢
  rw [hny] at hcy ⊢
  rw [hnm] at hcm ⊢
  have HM := Lib.hid (fun W => make_any (n * 2) W (by omega) (by omega))
  have hw2 : IntKind.i64.wrap ((n : Int) * 2) = ((n * 2 : Nat) : Int) := by rw [IntKind.wrap_i64]; omega
  have hnn : ((n : Int) == (n : Int)) = true := by simp
  clear hsx hsy hsm sx sy sm hdx hdy hdm hnx hny hnm hk
  go_enter Try.func112, Try.ntmps112
  go_wp2_with (first
    | (go_at_call 120; refine (HM.out _).mono ?_; rintro e w1 ⟨z, c, rfl, hc1, hc2, row, hz, f⟩; have HROW := Lib.hid row; clear row)
    | (refine wp_clear rfl (.tmp 42) _ rfl .u64 87 8 ty_big (some ⟨z, 0, none⟩) z 0 (n * 2) c rfl (fun _ => rfl) (List.replicate c 0) HROW.out (by simp; omega) ?_; intro w2 row2 f2; rw [spl_same (by omega)] at row2; have HR2 := Lib.hid row2; have HF2 := Lib.hid f2; clear row2 f2))
  go_loopg [13, 14] n (MoRel (val 18446744073709551616 xs) (val 18446744073709551616 ms) ys z c n w1)
  case atStart => exact ⟨0, 0, List.replicate c 0, 0, by omega, rfl, rfl, rfl, .inl rfl, HR2.out, HF2.out, by simp, DG.rep (by omega) _, by omega, by simp, by rw [List.drop_zero, List.take_replicate, val_rep]; simp [val_nil]⟩
  case round =>
    clear HROW HR2 HM
    obtain ⟨i, kc, Z, U, hi, rfl, rfl, rfl, hkc, hrow, hf, hzl, hzd, hu0, hu1, hv⟩ := hrel
    have HR := Lib.hid hrow
    have HF := Lib.hid hf
    have HZL := Lib.hid hzl
    have HZD := Lib.hid hzd
    have HU0 := Lib.hid hu0
    have HU1 := Lib.hid hu1
    have HV := Lib.hid hv
    have HKC := Lib.hid hkc
    have FX : ∀ (b off : Nat) (qs : List Int) (wq : World), b < w.heap.size → Src .u64 w b off qs → Fr [z] w1 wq → Src .u64 wq b off qs := fun b off qs wq hb hs hf => hs.fr ((f.mono (S' := [z]) (by simp)).trans hf (fun x hx _ => hx)) (by simp; omega)
    have HFX := Lib.hid FX
    have hkcc := hkc
    clear hrow hf hzl hzd hu0 hu1 hv hkc FX
    by_cases h1 : i < n
    · have cyi := (HFX.out _ _ _ _ hby HSY.out HF.out) i (by rw [HNY.out]; exact h1)
      obtain ⟨d, hd⟩ : ∃ d, d = ys.getD i 0 := ⟨_, rfl⟩
      obtain ⟨hd0, hd1⟩ := HDY.out.getD (by omega) i
      rw [← hd] at cyi hd0 hd1
      have HD := Lib.hid hd
      have hci : ¬ c = i := by omega
      have hlz : ((Z.drop i).take n).length = n := by rw [List.length_take, List.length_drop, HZL.out]; omega
      have CA := Lib.hid (addMulVVWWo_any z i (c - i) z i (c - i) bx ox cx n Z ((Z.drop i).take n) xs d 0 wr.drew HR.out.drew (by rw [HZL.out]; omega) hlz ((HR.out.drew.src (by rw [HZL.out]; omega)).take n) ((HZD.out.drop i).take n) (.inr (.inl (Nat.le_refl _))) HNX.out (HFX.out _ _ _ _ hbx HSX.out HF.out.drew) HDX.out (.inl (by omega)) (by omega) hd0 hd1 (by omega) (by omega))
      have ein : ((n : Int) + (i : Int)).toNat = n + i := by omega
      have hwi : IntKind.i64.wrap ((n : Int) + (i : Int)) = (n : Int) + (i : Int) := by rw [IntKind.wrap_i64]; omega
      have hii : (n : Int) + (i : Int) ≤ (c : Int) := by omega
      have hi0 : (0 : Int) ≤ (n : Int) + (i : Int) := by omega
      have hi1 : (n : Int) + (i : Int) < ((n * 2 : Nat) : Int) := by omega
      have hile : (i : Int) ≤ (n : Int) + (i : Int) := by omega
      have hisub : n + i - i = n := by omega
      have hi2 : (i : Int) < ((n * 2 : Nat) : Int) := by omega
      clear hd hlz
      go_wp2_with fail
      go_region_with (go_at_call 124; refine (Hid.out CA).mono ?_; rintro e w2 ⟨s1, c2, rfl, row2, f2, hs1l, hs1d, h20, h21, hv2⟩; have HS1L := Lib.hid hs1l; have HS1D := Lib.hid hs1d; have HV2 := Lib.hid hv2; have HF2' := Lib.hid (HF.out.drew.trans f2 (fun x hx _ => hx)); have cz2 := row2.cell (i := i) (by rw [spl_len (by rw [HS1L.out, HZL.out]; omega), HZL.out]; omega); obtain ⟨a0, ha0⟩ : ∃ a0, a0 = (spl Z i s1).getD i 0 := ⟨_, rfl⟩; rw [← ha0] at cz2; have HA0 := Lib.hid ha0; have HR2 := Lib.hid row2; clear hs1l hs1d hv2 f2 ha0 row2)
      all_goals (
        have hZ1l : (spl Z i s1).length = c := by rw [spl_len (by rw [HS1L.out, HZL.out]; omega), HZL.out]
        have HZ1L := Lib.hid hZ1l
        obtain ⟨t, ht⟩ : ∃ t, t = (a0 * k) % 18446744073709551616 := ⟨_, rfl⟩
        have hwt : IntKind.u64.wrap (a0 * k) = t := by rw [IntKind.wrap_u64, ht]
        have ht0 : 0 ≤ t := by omega
        have ht1 : t < 18446744073709551616 := by omega
        have HT := Lib.hid ht
        have hZ1d : DG 18446744073709551616 (spl Z i s1) := spl_dg HZD.out HS1D.out
        have hsz2 : Src .u64 w2.drew z i s1 := by
          have h := (HR2.out.drew.src (off := i) (by rw [hZ1l]; omega)).take n
          have e : ((spl Z i s1).drop i).take n = s1 := by
            unfold spl
            rw [List.drop_append_of_le_length (by rw [List.length_take, HZL.out]; omega), List.drop_of_length_le (by rw [List.length_take]; omega), List.nil_append, List.take_append_of_le_length (by rw [HS1L.out]; omega), List.take_of_length_le (by rw [HS1L.out]; omega)]
          rwa [e] at h
        have CB := Lib.hid (addMulVVWWo_any z i (c - i) z i (c - i) bm om cm n (spl Z i s1) s1 ms t 0 w2.drew HR2.out.drew (by rw [hZ1l]; omega) HS1L.out hsz2 HS1D.out (.inr (.inl (Nat.le_refl _))) HNM.out (HFX.out _ _ _ _ hbm HSM.out HF2'.out.drew) HDM.out (.inl (by omega)) (by omega) ht0 ht1 (by omega) (by omega))
        have HZ1D := Lib.hid hZ1d
        clear hZ1l ht hZ1d hsz2 CA
        go_wp2_with fail
        go_region_with (go_at_call 124; refine (Hid.out CB).mono ?_; rintro e w3 ⟨s2, c3, rfl, row3, f3, hs2l, hs2d, h30, h31, hv3⟩; have HS2L := Lib.hid hs2l; have HS2D := Lib.hid hs2d; have HV3 := Lib.hid hv3; have HF3 := Lib.hid (HF2'.out.drew.trans f3 (fun x hx _ => hx)); have hfz := row3.frozen (n + i); have cz3 := row3.cell (i := n + i) (by rw [spl_len (by rw [HS2L.out, HZ1L.out]; omega), HZ1L.out]; omega); obtain ⟨old, hold⟩ : ∃ old, old = (spl (spl Z i s1) i s2).getD (n + i) 0 := ⟨_, rfl⟩; rw [← hold] at cz3; have HR3 := Lib.hid row3; clear hs2l hs2d hv3 f3 hold row3)
        all_goals (
          obtain ⟨q1, hq1⟩ : ∃ q1, q1 = (kc + c2) % 18446744073709551616 := ⟨_, rfl⟩
          obtain ⟨q2, hq2⟩ : ∃ q2, q2 = (q1 + c3) % 18446744073709551616 := ⟨_, rfl⟩
          have hwq1 : IntKind.u64.wrap (kc + c2) = q1 := by rw [IntKind.wrap_u64, hq1]
          have hwq2 : IntKind.u64.wrap (q1 + c3) = q2 := by rw [IntKind.wrap_u64, hq2]
          obtain ⟨hq20, hq21, hcar⟩ := mo_carry HKC.out h20 h21 h30 h31 hq1 hq2
          have hZ2l : (spl (spl Z i s1) i s2).length = c := by rw [spl_len (by rw [HS2L.out, HZ1L.out]; omega), HZ1L.out]
          have hwin : ((spl (spl Z i s1) i s2).drop i).take n = s2 := by
            rw [spl]
            rw [List.drop_append_of_le_length (by rw [List.length_take, HZ1L.out]; omega), List.drop_of_length_le (by rw [List.length_take]; omega), List.nil_append, List.take_append_of_le_length (by rw [HS2L.out]; omega), List.take_of_length_le (by rw [HS2L.out]; omega)]
          have hs20 : s2.getD 0 0 = 0 := by
            have e1 := val_head (zs := s2) (by rw [HS2L.out]; exact hn0)
            have e2 := val_head (zs := s1) (by rw [HS1L.out]; exact hn0)
            have e3 := val_head (zs := ms) (by rw [HNM.out]; exact hn0)
            have hb := HS2D.out.getD (by omega) 0
            have ha0' : a0 = s1.getD 0 0 := by
              rw [HA0.out, spl_get (by rw [HS1L.out, HZL.out]; omega), if_neg (by omega), if_pos (by rw [HS1L.out]; omega), Nat.sub_self]
            have hWn : (18446744073709551616 : Int) ^ n = 18446744073709551616 * 18446744073709551616 ^ (n - 1) := by
              rw [Int.mul_comm, ← Int.pow_succ]; congr 1; omega
            refine mo_low (A2 := val 18446744073709551616 s2) (Wn := 18446744073709551616 ^ n) (by rw [HV3.out, Int.add_zero]) hWn (by rw [ha0']; exact e2) e3 HT.out HK.out ?_
            rw [e1]
            omega
          have G : ∀ nc : Int, (nc = 0 ∨ nc = 1) → q2 + 18446744073709551616 * nc = kc + c2 + c3 → ∀ wq : World, Row .u64 87 wq z ((spl (spl Z i s1) i s2).set (n + i) q2) → Fr [z] w1 wq →
              MoRel (val 18446744073709551616 xs) (val 18446744073709551616 ms) ys z c n w1 (n - (i + 1)) (.int .u64 nc) (.int .i64 ((i : Int) + 1)) wq := by
            intro nc hnc hsum wq hrq hfq
            refine ⟨i + 1, nc, _, U + 18446744073709551616 ^ i * t, by omega, rfl, by go_num, rfl, hnc, hrq, hfq, by rw [List.length_set, hZ2l], (spl_dg HZ1D.out HS2D.out).set _ hq20 hq21, ?_, ?_, ?_⟩
            · have := Int.mul_nonneg (Int.le_of_lt (pow_pos_ (B := 18446744073709551616) (by omega) i)) ht0
              have := HU0.out
              omega
            · have h := Int.mul_le_mul_of_nonneg_left (show t ≤ 18446744073709551615 by omega) (Int.le_of_lt (pow_pos_ (B := 18446744073709551616) (by omega) i))
              have := HU1.out
              rw [Int.pow_succ]
              omega
            · have e1 := val_head (zs := s2) (by rw [HS2L.out]; exact hn0)
              rw [hs20, Int.zero_add] at e1
              have hWn : (18446744073709551616 : Int) ^ n = 18446744073709551616 * 18446744073709551616 ^ (n - 1) := by
                rw [Int.mul_comm, ← Int.pow_succ]; congr 1; omega
              rw [Int.pow_succ, window_next (by rw [hZ2l]; omega) hn0, hwin]
              refine mont_step (W := 18446744073709551616) (Wn1 := 18446744073709551616 ^ (n - 1)) (d := d) (A := val 18446744073709551616 ((Z.drop i).take n)) (by rw [HV2.out, Int.add_zero]) (by rw [HV3.out, Int.add_zero]) hsum e1 rfl hWn ?_ HV.out ?_
              · rw [val_snoc, List.length_drop, HS2L.out]
              · rw [val_take_succ', ← HD.out]
          have HG := Lib.hid G
          have hrow4 := Lib.hid (HR3.out.set (n + i) q2)
          have hf4 := Lib.hid (HF3.out.set (p := ⟨z, n + i, none⟩) (.inl (by simp)) (.int .u64 q2))
          clear hq1 hq2 hZ2l hwin hs20 G HR3 HF3
          rcases hcar with ⟨k1, k2⟩ | ⟨k1, k2, k3⟩ | ⟨k1, k2, k3⟩
          · have K2 := Lib.hid k2
            clear k2
            go_wp2_with fail
            go_roundg (n - (i + 1))
            case measure => omega
            case rel => exact HG.out 1 (.inr rfl) K2.out _ hrow4.out hf4.out
          · have K2 := Lib.hid k3
            clear k3
            go_wp2_with fail
            go_roundg (n - (i + 1))
            case measure => omega
            case rel => exact HG.out 1 (.inr rfl) K2.out _ hrow4.out hf4.out
          · have K2 := Lib.hid k3
            clear k3
            go_wp2_with fail
            go_roundg (n - (i + 1))
            case measure => omega
            case rel => exact HG.out 0 (.inl rfl) K2.out _ hrow4.out hf4.out))
    · obtain rfl : i = n := by omega
      have hcn : ¬ c = i := by omega
      have hlw : ((Z.drop i).take i).length = i := by rw [List.length_take, List.length_drop, HZL.out]; omega
      have hwd : DG 18446744073709551616 ((Z.drop i).take i) := (HZD.out.drop i).take i
      have hvf := HV.out
      rw [show ys.take i = ys from List.take_of_length_le (by rw [HNY.out]; omega)] at hvf
      have hX := val_nonneg (by omega) HDX.out
      have hX1 := val_lt (by omega) HDX.out
      have hY := val_nonneg (by omega) HDY.out
      have hY1 := val_lt (by omega) HDY.out
      have hM := val_nonneg (by omega) HDM.out
      rw [HNX.out] at hX1
      rw [HNY.out] at hY1
      have hbnd := mont_bound hX hX1 hY hY1 hM HU1.out hvf
      have hwn := pow_pos_ (B := 18446744073709551616) (by omega) i
      have hA := val_nonneg (by omega) hwd
      have hsrc : Src .u64 wr.drew z i ((Z.drop i).take i) := (HR.out.drew.src (by rw [HZL.out]; omega)).take i
      have hsub : i * 2 - i = i := by omega
      have hi2 : (i : Int) ≤ ((i * 2 : Nat) : Int) := by omega
      have hic : (i : Int) ≤ (c : Int) := by omega
      have hfin : ∀ (zs : List Int) (wq : World), Row .u64 87 wq z (spl Z 0 zs) → Fr [z] w1 wq → zs.length = i → DG 18446744073709551616 zs → val 18446744073709551616 zs = val 18446744073709551616 ((Z.drop i).take i) + 18446744073709551616 ^ i * kc - val 18446744073709551616 ms * kc →
          ∃ v zs', Ending.returned (.slice (some ⟨z, 0, none⟩) i c) = .returned v ∧ Sl .u64 wq v zs' ∧ zs'.length = i ∧ DG 18446744073709551616 zs' ∧ (val 18446744073709551616 ms ∣ val 18446744073709551616 zs' * 18446744073709551616 ^ i - val 18446744073709551616 xs * val 18446744073709551616 ys) ∧ Fr [] w wq := by
        intro zs wq hrq hfq hql hqd hqv
        refine ⟨_, zs, rfl, (src_spl hrq (by rw [hql, HZL.out]; omega)).sl hql (by omega) (by unfold maxLen; omega), hql, hqd, ⟨U - kc * 18446744073709551616 ^ i, ?_⟩, fr_new'' f hfq hz⟩
        rw [hqv]
        have e : (val 18446744073709551616 ((Z.drop i).take i) + 18446744073709551616 ^ i * kc - val 18446744073709551616 ms * kc) * 18446744073709551616 ^ i = (val 18446744073709551616 ((Z.drop i).take i) + 18446744073709551616 ^ i * kc) * 18446744073709551616 ^ i - val 18446744073709551616 ms * (kc * 18446744073709551616 ^ i) := by grind
        rw [e, hvf]
        grind
      have HFIN := Lib.hid hfin
      have hile2 : (i : Int) ≤ (i : Int) * 2 := by omega
      rcases hkcc with rfl | rfl
      · have HDP := Lib.hid (show 0 < i → (some (⟨z, 0, none⟩ : Addr)) = some ⟨z, 0, none⟩ ∧ (some ⟨z, i, none⟩ : Option Addr) = some ⟨z, i, none⟩ from fun _ => ⟨rfl, rfl⟩)
        have HLW := Lib.hid hlw
        have HWD := Lib.hid hwd
        have HSRC := Lib.hid hsrc
        obtain ⟨WL, hWL⟩ : ∃ WL, WL = (Z.drop i).take i := ⟨_, rfl⟩
        rw [← hWL] at HLW HWD HSRC HFIN
        clear hlw hwd hsrc hfin hvf hX hX1 hY hY1 hM hbnd hwn hA hWL HV
        go_wp2_with fail
        go_region_law (refine step_copy rfl (.tmp 120) (.tmp 123) _ _ rfl .u64 87 Try.underlying79 size_wordS (some ⟨z, 0, none⟩) (some ⟨z, i, none⟩) i c (c - i) (by simp [Act.eval, Act.put]) WL (by simp [Act.eval, Act.put, hsub]) HLW.out z i HSRC.out z 0 Z HR.out.drew (fun _ => ⟨rfl, rfl⟩) (by rw [HZL.out]; omega) ?_; intro w2 row2 f2; have HG2 := Lib.hid (HFIN.out WL w2 row2 (HF.out.drew.trans f2 (fun x hx _ => hx)) HLW.out HWD.out (by rw [Int.mul_zero, Int.mul_zero, Int.add_zero, Int.sub_zero])); clear HFIN row2 f2)
        all_goals (go_wp2_with fail)
        all_goals go_ret
        all_goals exact HG2.out
      · have CS := Lib.hid (subVVo_any z 0 c z i (c - i) bm om cm i Z ((Z.drop i).take i) ms wr.drew HR.out.drew (by rw [HZL.out]; omega) hlw hsrc hwd (.inr (.inl (by omega))) HNM.out (HFX.out _ _ _ _ hbm HSM.out HF.out.drew) HDM.out (.inl (by omega)) (by omega))
        have hTb : val 18446744073709551616 ((Z.drop i).take i) < val 18446744073709551616 ms := by omega
        have HTB := Lib.hid hTb
        have HWN := Lib.hid hwn
        have HAA := Lib.hid hA
        have HMM := Lib.hid hM
        have HM1 := Lib.hid (show val 18446744073709551616 ms < 18446744073709551616 ^ i by have := val_lt (by omega) HDM.out; rwa [HNM.out] at this)
        clear hlw hwd hsrc hfin hvf hX hX1 hY hY1 hM hbnd hwn hA HV hTb
        go_wp2_with fail
        go_region_with (go_at_call 131; refine (Hid.out CS).mono ?_; rintro e w2 ⟨zs, b, rfl, row2, f2, hzl2, hzd2, hb0, hb1, hv2⟩; have HR2' := Lib.hid row2; have HF2' := Lib.hid f2; have HZL2 := Lib.hid hzl2; have HZD2 := Lib.hid hzd2; have HV2 := Lib.hid hv2; clear row2 f2 hzl2 hzd2 hv2)
        all_goals (
          have hG2 := HFIN.out zs w2 HR2'.out (HF.out.drew.trans HF2'.out (fun x hx _ => hx)) HZL2.out HZD2.out (by
            have h := HV2.out
            have h1 := HTB.out
            have h2 := val_nonneg (B := 18446744073709551616) (by omega) HZD2.out
            have h3 := val_lt (B := 18446744073709551616) (by omega) HZD2.out
            rw [HZL2.out] at h3
            rcases (show b = 0 ∨ b = 1 by omega) with rfl | rfl
            · omega
            · omega)
          have HG2 := Lib.hid hG2
          clear hG2 HFIN HR2' HF2'
          go_wp2_with fail
          go_ret
          exact HG2.out)
end Go.Proofs.Ytjapebgihnahjaa
