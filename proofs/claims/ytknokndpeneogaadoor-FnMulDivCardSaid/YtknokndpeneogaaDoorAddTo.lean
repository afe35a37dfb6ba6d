/-
  addTo: a number added to words in place. Conditions: the words can be written, the number lies apart, not longer than they.
-/
import Derived.Test.YtknokndpeneogaaDoorNR
set_option linter.unusedSimpArgs false
set_option linter.unusedVariables false
namespace Go.Proofs.YtknokndpeneogaaDoor
open Go.Big Go.RowKit
def AtPost (w : World) (bz oz n : Nat) (V : Int) (e : Ending) (w' : World) : Prop :=
  ∃ zs c, e = .returned (.tuple #[]) ∧ Wr 77 w' bz oz zs ∧ zs.length = n ∧ DG 18446744073709551616 zs ∧ Fc 77 (In1 bz oz n) w w' ∧ 0 ≤ c ∧ c ≤ 1 ∧ val 18446744073709551616 zs + 18446744073709551616 ^ n * c = V
set_option maxRecDepth 100000 in
set_option maxHeartbeats 2000000 in
theorem addTo_any (bz oz cz n : Nat) (Ax : Option Addr) (bx ox cx m : Nat) (L xs : List Int) (w : World) (hz : Wr 77 w bz oz L) (hL : L.length = n) (hdL : DG 18446744073709551616 L) (hx : Nm w Ax bx ox cx xs) (hd : DG 18446744073709551616 xs) (hm : xs.length = m) (hmn : m ≤ n) (hn9 : n ≤ 4000000) (hcz : n ≤ cz) (hcz9 : cz ≤ maxLen) (hdj : 0 < m → Dj bx ox m bz oz n) :
    Calls Tryd.prog 102 #[.slice (some ⟨bz, oz, none⟩) n cz, .slice Ax m cx] w (AtPost w bz oz n (val 18446744073709551616 L + val 18446744073709551616 xs)) := by
  unfold maxLen at hcz9
  have HZ := Lib.hid hz
  have HL := Lib.hid hL
  have HDL := Lib.hid hdL
  by_cases h0 : m = 0
  · have hxs : xs = [] := List.eq_nil_of_length_eq_zero (by omega)
    subst hxs
    subst h0
    clear hz hL hdL hx hd hdj hm
    go_enter Tryd.func102, Tryd.ntmps102
    go_wp2_with fail
    first | go_end0 | refine bodyPost_ret (results_none rfl _ _ _) rfl ?_
    exact ⟨L, 0, rfl, HZ.out, HL.out, HDL.out, Fc.refl _ _ _, by omega, by omega, by rw [val_nil]; omega⟩
  · have hm0 : 0 < m := by omega
    have hm0I : (0 : Int) < (m : Int) := by omega
    obtain rfl := hx.addr (by omega)
    have hxw := hx.wr (by omega)
    have hcx := hx.le
    have hcx9 := hx.max
    unfold maxLen at hcx9
    rw [hm] at hcx
    have CV := Lib.hid (addVVw_any bz oz cz bz oz cz bx ox cx m (L.take m) (L.take m) xs w.drew (hz.take m (by omega)).drew (by rw [List.length_take]; omega) (by rw [List.length_take]; omega) (hz.take m (by omega)).drew.src (hdL.take m) (.inr ⟨rfl, Nat.le_refl _⟩) hm hxw.drew.src hd (.inl ((hdj hm0).sub1 (Nat.le_refl _) hmn)) (by omega))
    have HM := Lib.hid hm
    clear hz hL hdL hx hd hdj hm hxw h0
    have hcm : m ≤ cz := by omega
    go_enter Tryd.func102, Tryd.ntmps102
    go_wp2_with fail
    go_region_with (go_at_call 96; refine (CV.out).mono ?_; rintro e w2 ⟨zs, k, rfl, hz2, f2, hzl, hzd, hk0, hk1, hv⟩; have HZ2 := Lib.hid hz2; have F2 := Lib.hid f2; have HZL := Lib.hid hzl; have HZD := Lib.hid hzd; have HV := Lib.hid hv; clear hz2 f2 hzl hzd hv)
    clear CV
    have F12 := Lib.hid (show Fc 77 (In1 bz oz n) w w2 from F2.out.of_drew.mono (fun x i hh _ => by unfold In1 at *; omega))
    have HU := Lib.hid (HZ.out.upd (i := 0) (zs := zs) HZ2.out (by rw [HZL.out]; exact F2.out.of_drew) (by rw [HZL.out, HL.out]; omega))
    have ZL := Lib.hid (show (spl L 0 zs).length = n by rw [spl_len (by rw [HZL.out, HL.out]; omega), HL.out])
    have HV2 := Lib.hid (show val 18446744073709551616 (spl L 0 zs) + 18446744073709551616 ^ m * k = val 18446744073709551616 L + val 18446744073709551616 xs by
      have h1 := HV.out
      rw [val_spl (by rw [HZL.out, HL.out]; omega), HZL.out, List.drop_zero, Int.pow_zero, Int.one_mul]
      omega)
    have HD2 := Lib.hid (show DG 18446744073709551616 (spl L 0 zs) from spl_dg HDL.out HZD.out)
    rcases (by omega : k = 0 ∨ k = 1) with rfl | rfl
    · go_wp2_with fail
      first | go_end0 | refine bodyPost_ret (results_none rfl _ _ _) rfl ?_
      exact ⟨_, 0, rfl, HU.out, ZL.out, HD2.out, F12.out, by omega, by omega, by have := HV2.out; omega⟩
    · by_cases hlt : m < n
      · have hltI : (m : Int) < (n : Int) := by omega
        have hczm : ¬ cz = m := by omega
        have CW := Lib.hid (addVWw_any bz (oz + m) (cz - m) bz (oz + m) (cz - m) (n - m) ((spl L 0 zs).drop m) ((spl L 0 zs).drop m) 1 w2.drew (HU.out.drop m (by rw [ZL.out]; omega)).drew (by rw [List.length_drop, ZL.out]) (by rw [List.length_drop, ZL.out]) (HU.out.drop m (by rw [ZL.out]; omega)).drew (HD2.out.drop m) (.inr ⟨rfl, rfl⟩) (by omega) (by omega) (by omega) (by omega) (by unfold maxLen; omega) (by unfold maxLen; omega) (by omega) (by omega))
        go_wp2_with fail
        go_region_with (go_at_call 107; refine (CW.out).mono ?_; rintro e w3 ⟨zs2, k2, rfl, hz3, f3, hzl2, hzd2, hk20, hk21, hv2⟩; have HZ3 := Lib.hid hz3; have F3 := Lib.hid f3; have HZL2 := Lib.hid hzl2; have HZD2 := Lib.hid hzd2; have HV3 := Lib.hid hv2; clear hz3 f3 hzl2 hzd2 hv2)
        clear CW
        go_wp2_with fail
        first | go_end0 | refine bodyPost_ret (results_none rfl _ _ _) rfl ?_
        have hU3 := HU.out.upd (i := m) (zs := zs2) HZ3.out (by rw [HZL2.out]; exact F3.out.of_drew) (by rw [HZL2.out, ZL.out]; omega)
        refine ⟨_, k2, rfl, hU3, by rw [spl_len (by rw [HZL2.out, ZL.out]; omega), ZL.out], spl_dg HD2.out HZD2.out, F12.out.t (F3.out.of_drew.mono (fun x i hh _ => by unfold In1 at *; omega)), hk20, hk21, ?_⟩
        have h2 := HV2.out
        have h3 := HV3.out
        have e2 : (18446744073709551616 : Int) ^ n = 18446744073709551616 ^ m * 18446744073709551616 ^ (n - m) := by rw [← Int.pow_add]; congr 1; omega
        rw [val_spl (by rw [HZL2.out, ZL.out]; omega), HZL2.out, List.take_of_length_le (by rw [List.length_drop, ZL.out]; omega), e2]
        grind
      · obtain rfl : m = n := by omega
        go_wp2_with fail
        first | go_end0 | refine bodyPost_ret (results_none rfl _ _ _) rfl ?_
        exact ⟨_, 1, rfl, HU.out, ZL.out, HD2.out, F12.out, by omega, by omega, HV2.out⟩
end Go.Proofs.YtknokndpeneogaaDoor
