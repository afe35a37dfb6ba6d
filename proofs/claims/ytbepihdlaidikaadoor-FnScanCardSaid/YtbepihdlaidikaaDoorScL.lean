/-
  The law of FnScan. Conditions: io.EOF and errNoDigits read as laid.
-/
import Derived.Test.YtbepihdlaidikaaDoorScS
import Derived.Test.YtbepihdlaidikaaDoorScF
import Derived.Test.YtbepihdlaidikaaDoorgWord
set_option linter.unusedSimpArgs false
set_option linter.unusedVariables false
namespace Go.Proofs.YtbepihdlaidikaaDoor
open Go.Big Go.RowKit
theorem rem61 {a : Int} (h0 : 0 ≤ a) (h1 : a < 256) : a.tmod 61 = a % 61 := Int.tmod_eq_emod_of_nonneg h0
theorem one_byte : byteAt ⟨#[49]⟩ 0 = 49 := by decide
theorem one_sign : byteAt ⟨#[49]⟩ 0 ≠ 43 ∧ byteAt ⟨#[49]⟩ 0 ≠ 45 := by rw [one_byte]; omega
theorem one_good : Good 10 ⟨#[49]⟩ := ⟨by decide, fun j hj => by
  have : j = 0 := by have h : ByteArray.size ⟨#[49]⟩ = 1 := by decide
                     omega
  subst this
  rw [one_byte]; decide⟩
theorem one_ok {v : Value} {ok : Bool} {w : World} (h : (Good 10 ⟨#[49]⟩ ∧ ok = true ∧ SW w v (figs 10 (bytesL ⟨#[49]⟩))) ∨ (¬ Good 10 ⟨#[49]⟩ ∧ ok = false)) : true = ok := by
  rcases h with ⟨_, rfl, _⟩ | ⟨h, _⟩
  · rfl
  · exact absurd one_good h
set_option maxRecDepth 100000 in
set_option maxHeartbeats 4000000 in
theorem law_main0 (s : ByteArray) (a b : Int) (w : World) (h0 : 0 ≤ a) (h1 : a < 256) (hb : b = 2 + a % 61) (hs : s.size = 0) (hE : ErrsAt w) :
    Calls Tryd.prog 3 #[.string s, .int .u8 a] w fun e w' => e = .returned (.bool true) ∧ Fr [] w w' := by
  have hb2 : 2 ≤ b := by omega
  have hb62 : b ≤ 62 := by omega
  have hg : 0 < s.size → byteAt s 0 ≠ 43 ∧ byteAt s 0 ≠ 45 := fun h => by omega
  have hr := rem61 h0 h1
  obtain ⟨r, hrr⟩ : ∃ r, r = a % 61 := ⟨_, rfl⟩
  rw [← hrr] at hr hb
  have hr0 : 0 ≤ r ∧ r < 61 := by omega
  obtain ⟨hr0, hr1⟩ := hr0
  have w0 : IntKind.i64.wrap r = r := by rw [IntKind.wrap_i64]; omega
  have w1_ : IntKind.i64.wrap (2 + r) = b := by rw [IntKind.wrap_i64]; omega
  have hsI : (s.size : Int) = 0 := by omega
  clear hrr hb
  have CF := Lib.hid (ofFigures_any s b w (by omega) hb2 hb62)
  have CI := Lib.hid (fun W (f : Fr [] w W) => implScan_any (show s.size ≤ 3000 by omega) hg hb2 hb62 (hE.fr0 f))
  have CO := Lib.hid (fun W (f : Fr [] w W) => implScan_any (s := ⟨#[49]⟩) (b := 10) (show ByteArray.size ⟨#[49]⟩ ≤ 3000 by decide) (fun _ => one_sign) (by omega) (by omega) (hE.fr0 f))
  have T1 : True := trivial
  clear hg hE
  go_enter Tryd.func3, Tryd.ntmps3
  go_upto_region 9 with (first
    | (go_at_call 4; refine (CF.out).mono ?_; rintro e w1 ⟨v1, ok1, rfl, f1, p1⟩; have F1 := Lib.hid f1; have P1 := Lib.hid p1; clear f1 p1)
    | (go_at_call 5; clear T1; refine (CI.out _ F1.out).mono ?_; rintro e w2 ⟨v2, ok2, rfl, f2, p2⟩; have F2 := Lib.hid f2; have P2 := Lib.hid p2; clear f2 p2)
    | (go_at_call 5; refine (CO.out _ (F1.out.t F2.out)).mono ?_; rintro e w3 ⟨v3, ok3, rfl, f3, p3⟩; have F3 := Lib.hid f3; have O3 := Lib.hid (one_ok p3); clear f3 p3))
  obtain rfl := O3.out
  rcases P2.out with ⟨hgd, rfl, sw2⟩ | ⟨hbad, rfl⟩
  · rcases P1.out with ⟨q1, q2, rfl, sn1⟩ | ⟨q, rfl⟩
    · have SW2 := Lib.hid (sw2.fr0 F3.out)
      have SN1 := Lib.hid ((sn1.fr0 F2.out).fr0 F3.out)
      have HB := Lib.hid (show figs b (bytesL s) < BIG by
        have h := (figs_BIG hb2 hb62 (show s.size ≤ 3000 by omega) (Nat.le_refl _) q2).1
        rwa [List.take_of_length_le (by rw [bytesL_len]; omega)] at h)
      clear hgd sw2 q1 q2 sn1 P1 P2 CI CO CF
      go_wp2_with (go_at_call 6; refine (exact_any _ _ _ _ SW2.out SN1.out HB.out).mono ?_; rintro e w4 ⟨rfl, f4⟩; have F4 := Lib.hid f4; clear f4)
      go_ret
      exact ⟨rfl, ((F1.out.t F2.out).t F3.out).t F4.out⟩
    · rcases q with h0 | ⟨k, hk, hkb⟩
      · exact absurd hgd.1 (by omega)
      · exact absurd hgd (bad_at hk hkb)
  · rcases P1.out with ⟨q1, q2, rfl, sn1⟩ | ⟨q, rfl⟩
    · exact absurd ⟨q1, q2⟩ hbad
    · clear hbad q P1 P2 CI CO CF
      go_wp2_with fail
      go_ret
      exact ⟨rfl, (F1.out.t F2.out).t F3.out⟩
set_option maxRecDepth 100000 in
set_option maxHeartbeats 4000000 in
theorem law_main1 (s : ByteArray) (a b : Int) (w : World) (h0 : 0 ≤ a) (h1 : a < 256) (hb : b = 2 + a % 61) (hs0 : 0 < s.size) (hs : s.size ≤ 3000) (g1 : byteAt s 0 ≠ 43) (g2 : byteAt s 0 ≠ 45) (hE : ErrsAt w) :
    Calls Tryd.prog 3 #[.string s, .int .u8 a] w fun e w' => e = .returned (.bool true) ∧ Fr [] w w' := by
  have hb2 : 2 ≤ b := by omega
  have hb62 : b ≤ 62 := by omega
  have hg : 0 < s.size → byteAt s 0 ≠ 43 ∧ byteAt s 0 ≠ 45 := fun _ => ⟨g1, g2⟩
  have hr := rem61 h0 h1
  obtain ⟨r, hrr⟩ : ∃ r, r = a % 61 := ⟨_, rfl⟩
  rw [← hrr] at hr hb
  have hr0 : 0 ≤ r ∧ r < 61 := by omega
  obtain ⟨hr0, hr1⟩ := hr0
  have w0 : IntKind.i64.wrap r = r := by rw [IntKind.wrap_i64]; omega
  have w1_ : IntKind.i64.wrap (2 + r) = b := by rw [IntKind.wrap_i64]; omega
  have hsI : 0 < (s.size : Int) := by omega
  have hsJ : (s.size : Int) ≤ 3000 := by omega
  obtain ⟨c, hc⟩ : ∃ c, c = byteAt s 0 := ⟨_, rfl⟩
  have hidx : ((s[0]'hs0).toNat : Int) = c := by rw [hc]; unfold byteAt; rw [dif_pos hs0]
  rw [← hc] at g1 g2
  have g1b : (c == 43) = false := by rw [beq_eq_false_iff_ne]; exact g1
  have g2b : (c == 45) = false := by rw [beq_eq_false_iff_ne]; exact g2
  clear hrr hb hc
  have CF := Lib.hid (ofFigures_any s b w (by omega) hb2 hb62)
  have CI := Lib.hid (fun W (f : Fr [] w W) => implScan_any (show s.size ≤ 3000 by omega) hg hb2 hb62 (hE.fr0 f))
  have CO := Lib.hid (fun W (f : Fr [] w W) => implScan_any (s := ⟨#[49]⟩) (b := 10) (show ByteArray.size ⟨#[49]⟩ ≤ 3000 by decide) (fun _ => one_sign) (by omega) (by omega) (hE.fr0 f))
  have T1 : True := trivial
  clear hg hE g1 g2
  go_enter Tryd.func3, Tryd.ntmps3
  go_upto_region 9 with (first
    | (go_at_call 4; refine (CF.out).mono ?_; rintro e w1 ⟨v1, ok1, rfl, f1, p1⟩; have F1 := Lib.hid f1; have P1 := Lib.hid p1; clear f1 p1)
    | (go_at_call 5; clear T1; refine (CI.out _ F1.out).mono ?_; rintro e w2 ⟨v2, ok2, rfl, f2, p2⟩; have F2 := Lib.hid f2; have P2 := Lib.hid p2; clear f2 p2)
    | (go_at_call 5; refine (CO.out _ (F1.out.t F2.out)).mono ?_; rintro e w3 ⟨v3, ok3, rfl, f3, p3⟩; have F3 := Lib.hid f3; have O3 := Lib.hid (one_ok p3); clear f3 p3))
  obtain rfl := O3.out
  rcases P2.out with ⟨hgd, rfl, sw2⟩ | ⟨hbad, rfl⟩
  · rcases P1.out with ⟨q1, q2, rfl, sn1⟩ | ⟨q, rfl⟩
    · have SW2 := Lib.hid (sw2.fr0 F3.out)
      have SN1 := Lib.hid ((sn1.fr0 F2.out).fr0 F3.out)
      have HB := Lib.hid (show figs b (bytesL s) < BIG by
        have h := (figs_BIG hb2 hb62 (show s.size ≤ 3000 by omega) (Nat.le_refl _) q2).1
        rwa [List.take_of_length_le (by rw [bytesL_len]; omega)] at h)
      clear hgd sw2 q1 q2 sn1 P1 P2 CI CO CF
      go_wp2_with (go_at_call 6; refine (exact_any _ _ _ _ SW2.out SN1.out HB.out).mono ?_; rintro e w4 ⟨rfl, f4⟩; have F4 := Lib.hid f4; clear f4)
      go_ret
      exact ⟨rfl, ((F1.out.t F2.out).t F3.out).t F4.out⟩
    · rcases q with h0 | ⟨k, hk, hkb⟩
      · exact absurd hgd.1 (by omega)
      · exact absurd hgd (bad_at hk hkb)
  · rcases P1.out with ⟨q1, q2, rfl, sn1⟩ | ⟨q, rfl⟩
    · exact absurd ⟨q1, q2⟩ hbad
    · clear hbad q P1 P2 CI CO CF
      go_wp2_with fail
      go_ret
      exact ⟨rfl, (F1.out.t F2.out).t F3.out⟩
set_option maxRecDepth 100000 in
set_option maxHeartbeats 4000000 in
theorem law_FnScan (s : ByteArray) (a : Int) (w : World) (h0 : 0 ≤ a) (h1 : a < 256) (hE : ErrsAt w) :
    Calls Tryd.prog 3 #[.string s, .int .u8 a] w fun e w' => e = .returned (.bool true) ∧ Fr [] w w' := by
  rcases Nat.eq_zero_or_pos s.size with hs | hs
  · exact law_main0 s a _ w h0 h1 rfl hs hE
  have hr := rem61 h0 h1
  obtain ⟨r, hrr⟩ : ∃ r, r = a % 61 := ⟨_, rfl⟩
  have hr0 : 0 ≤ r ∧ r < 61 := by omega
  obtain ⟨hr0, hr1⟩ := hr0
  by_cases hs2 : s.size ≤ 3000
  · by_cases g1 : byteAt s 0 = 43
    · have hidx : ((s[0]'hs).toNat : Int) = 43 := by rw [← g1]; unfold byteAt; rw [dif_pos hs]
      rw [← hrr] at hr
      have w0 : IntKind.i64.wrap r = r := by rw [IntKind.wrap_i64]; omega
      obtain ⟨b, hb⟩ : ∃ b, b = 2 + r := ⟨_, rfl⟩
      have w1_ : IntKind.i64.wrap (2 + r) = b := by rw [IntKind.wrap_i64]; omega
      have hsI : 0 < (s.size : Int) := by omega
      have hsJ : (s.size : Int) ≤ 3000 := by omega
      clear hrr hb hE g1
      go_enter Tryd.func3, Tryd.ntmps3
      go_wp2_with fail
      go_ret
      exact ⟨rfl, Fr.refl _ _⟩
    by_cases g2 : byteAt s 0 = 45
    · have hidx : ((s[0]'hs).toNat : Int) = 45 := by rw [← g2]; unfold byteAt; rw [dif_pos hs]
      rw [← hrr] at hr
      have w0 : IntKind.i64.wrap r = r := by rw [IntKind.wrap_i64]; omega
      obtain ⟨b, hb⟩ : ∃ b, b = 2 + r := ⟨_, rfl⟩
      have w1_ : IntKind.i64.wrap (2 + r) = b := by rw [IntKind.wrap_i64]; omega
      have hsI : 0 < (s.size : Int) := by omega
      have hsJ : (s.size : Int) ≤ 3000 := by omega
      clear hrr hb hE g1 g2
      go_enter Tryd.func3, Tryd.ntmps3
      go_wp2_with fail
      go_ret
      exact ⟨rfl, Fr.refl _ _⟩
    · exact law_main1 s a _ w h0 h1 rfl hs hs2 g1 g2 hE
  · rw [← hrr] at hr
    have w0 : IntKind.i64.wrap r = r := by rw [IntKind.wrap_i64]; omega
    obtain ⟨b, hb⟩ : ∃ b, b = 2 + r := ⟨_, rfl⟩
    have w1_ : IntKind.i64.wrap (2 + r) = b := by rw [IntKind.wrap_i64]; omega
    have hsI : 3000 < (s.size : Int) := by omega
    clear hrr hb hE
    by_cases hs3 : 2147483647 < (s.size : Int)
    · go_enter Tryd.func3, Tryd.ntmps3
      go_wp2_with fail
      go_ret
      exact ⟨rfl, Fr.refl _ _⟩
    · go_enter Tryd.func3, Tryd.ntmps3
      go_wp2_with fail
      go_ret
      exact ⟨rfl, Fr.refl _ _⟩
end Go.Proofs.YtbepihdlaidikaaDoor
